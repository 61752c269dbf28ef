import PyProof.Rows.All
import Wide.All
import OpenK.AllK
import Wide.FinOn
import Lean
import PySem.Challenge.RW_ij0195_02
set_option Elab.async false
local macro_rules | `(tactic| omega) => `(tactic| first | lia | omega +splitNatSub)
section
open PySem PySem.W PyProof.Rows
set_option maxRecDepth 100000
set_option maxHeartbeats 0
namespace Mine
open_top hd for PySem.Challenge.rw_ij0195_02
end Mine
end
section
open PySem PySem.W PyProof.Rows PySem.Calls
set_option maxRecDepth 100000
namespace Mine
section
variable {prog : Program} {w : World} {A A₀ : Around} {s : Shared} {base h₀ : Heap} {outer : List Env} {L : Addr} {m mg mb : Str → Option Value} {env : Env} {K : Frag} {p : Program} {loose : List Str} {mean : ExcName → Option Value}
  {R : Result → Shared → Prop} {name qual : Str} {params : Arguments} {body : List Stmt} {scope : Scope} {dV kV doc pm cdv ct oc : Value} {an od : Option Addr} {osl : Array (Option Value)} {f : Addr} {args : Args} {binds : List (Str × Value)}

/-- enter a def with everything that stands as its ground -/
theorem callP (B : Below A₀ base outer h₀) (F : Fr h₀ L s.heap m) (X₀ : K.In h₀) (T : Top p loose mean mg mb h₀) (hA : A.frames = some (env :: outer)) (hf : env.frame = some L) (hke : env.scope.kind = .function)
    (ho : K.lookup f = some ⟨oc, od, .func (fnOf name qual params body scope dV kV doc pm an cdv ct), osl⟩) (hcd : codeIn K cdv qual = true) (hroom : A.depth < recursionLimit)
    (hbind : BindsTo s (fnOf name qual params body scope dV kV doc pm an cdv ct) args binds) (hloc : ∀ y ∈ binds, scope.names.lookup y.1 = some .local)
    (h : ∀ L' h₁, Fr s.heap L' h₁ (fun y => binds.reverse.lookup y) → News s.heap L' h₁ [] → Below A base (env :: outer) s.heap → K.In s.heap → Top p loose mean mg mb s.heap →
      wpAny (model prog w) (A.deeper (envOf qual scope L' f cdv)) (execs body (envOf qual scope L' f cdv))
        (fun fl s' => R (.ok (.ret (match fl with | .ret v => v | _ => .none))) s')
        (fun e s' => wpAny (model prog w) (A.deeper (envOf qual scope L' f cdv)) (leaving (envOf qual scope L' f cdv) e) (fun _ s'' => R (.error e) s'') (fun e' s'' => R (.error e') s'') s')
        { s with heap := h₁, toks := s.toks + binds.length })
    (hco : scope.isCoroutine = false) (hgen : scope.isGenerator = false) (hk : scope.kind = .function)
    (hcell : ∀ x ∈ scope.names, x.2 ≠ .cell) : codeAny (model prog w) A (.call (.ref f) args) R s := by
  have X := X₀.keeps F.keep
  have T' := T.keeps F.keep
  have B₁ := pushX B F hf hke
  refine codeAny_call_def (fd := fnOf name qual params body scope dV kV doc pm an cdv ct) (body := body) (binds := binds) hroom (X _ _ ho) rfl T'.nolimit (codeRec_of X hcd) rfl hbind hcell hloc (fun h₁ hns hk₁ => ?_) hco hgen hk
  exact h s.heap.objs.size h₁ ⟨hns, hk₁, Nat.le_refl _⟩ News.nil ⟨hA, B₁.stays, B₁.frames⟩ X T'

theorem callPC (B : Below A₀ base outer h₀) (F : Fr h₀ L s.heap m) (X₀ : K.In h₀) (T : Top p loose mean mg mb h₀) (hA : A.frames = some (env :: outer)) (hf : env.frame = some L) (hke : env.scope.kind = .function)
    (ho : K.lookup f = some ⟨oc, od, .func (fnOf name qual params body scope dV kV doc pm an cdv ct), osl⟩) (hcd : codeIn K cdv qual = true) (hroom : A.depth < recursionLimit)
    (hbind : BindsTo s (fnOf name qual params body scope dV kV doc pm an cdv ct) args binds)
    (hkind : ∀ n, ∀ x ∈ binds, scope.names.lookup x.1 = some .local ∨ (scope.names.lookup x.1 = some .cell ∧ ((cellsFrom n scope.names []).lookup x.1).isSome = true))
    (hnd : ((cellsFrom 0 scope.names []).map (·.1)).Nodup)
    (h : ∀ L' h₁ tk cells, Fr s.heap L' h₁ (bindL (envOfC qual scope L' f cdv).kindOf binds fun _ => none) → News s.heap L' h₁ cells →
      CellsAre (bindC (envOfC qual scope L' f cdv).kindOf binds fun _ => none) (cellsFrom (L' + 1) scope.names []) cells → Below A base (env :: outer) s.heap → K.In s.heap → Top p loose mean mg mb s.heap →
      wpAny (model prog w) (A.deeper (envOfC qual scope L' f cdv)) (execs body (envOfC qual scope L' f cdv))
        (fun fl s' => R (.ok (.ret (match fl with | .ret v => v | _ => .none))) s')
        (fun e s' => wpAny (model prog w) (A.deeper (envOfC qual scope L' f cdv)) (leaving (envOfC qual scope L' f cdv) e) (fun _ s'' => R (.error e) s'') (fun e' s'' => R (.error e') s'') s')
        { s with heap := h₁, toks := tk })
    (hco : scope.isCoroutine = false) (hgen : scope.isGenerator = false) (hk : scope.kind = .function) : codeAny (model prog w) A (.call (.ref f) args) R s := by
  have X := X₀.keeps F.keep
  have T' := T.keeps F.keep
  have B₁ := pushX B F hf hke
  refine codeAny_call_function hroom (X _ _ ho) rfl hco hgen rfl (codeRec_of X hcd) (hbind _ _ _ _ ?_)
  refine wpAny_newFunctionEnv_cells hk (hkind _) fun env' he s' x => ?_
  subst he
  refine ⟨T'.nolimit.keeps x.toInCall.keep, codeAny_func ?_⟩
  obtain ⟨h₁, tk, rfl, _⟩ := x.done
  have hk₁ := x.toInCall.keep
  obtain ⟨cells, NC, Y⟩ := Cl.news (h₀ := s.heap) (Nat.le_refl _) fun n c hm => ⟨x.cell n c (lookup_of_mem_nodup (cellsFrom_names scope.names 0 (s.heap.objs.size + 1) [] [] rfl ▸ hnd) hm), x.above n c hm⟩
  exact h s.heap.objs.size h₁ tk cells ⟨x.toInCall.ns, hk₁, Nat.le_refl _⟩ NC Y ⟨hA, B₁.stays, B₁.frames⟩ X T'
end
theorem inst_up {h h' : Heap} {x C : Addr} {ox : Obj} {od : Option Obj} (I : InstAt h x ox C od) (k : ∀ b o, h.get? b = some o → h'.get? b = some o) : InstAt h' x ox C od := by
  refine ⟨k _ _ I.at_, I.cls, I.no, ?_⟩
  have q := I.dict
  revert q
  cases ox.dict <;> cases od <;> simp only [] <;> first | exact id | exact k _ _
section
variable {prog : Program} {w : World} {A : Around} {E : Value → Shared → Prop} {s : Shared} {env : Env} {h₀ : Heap} {x : Str} {body : List Stmt} {Q : Flow → Shared → Prop}
end

def TurnEnd (P : Shared → Prop) (Q : Flow → Shared → Prop) (f : Flow) (s : Shared) : Prop := match f with
  | .next => P s
  | .cont => P s
  | .brk => Q .next s
  | .ret v => Q (.ret v) s
section
variable {prog : Program} {w : World} {A : Around} {E : Value → Shared → Prop} {s : Shared} {env : Env} {body : List Stmt} {Q : Flow → Shared → Prop}
theorem while_true {k : Nat} {p pos : Pos} (I : Nat → Shared → Prop)
    (turn : ∀ n s, I n s → wpAny (model prog w) A (execs body env) (TurnEnd (fun s' => ∃ m, m < n ∧ I m s') Q) E s) (n : Nat) (h : I n s)
    (hE : PassesOwn (model prog w) A env E := by passes_own) :
    wpAny (model prog w) A (exec (.While (.Constant (.bool true) k p) body [] pos) env) Q E s := by
  refine wpAny_While (codeAny_whileLoop (R := fun r s' => match r with | .ok f => Q f s' | .error e => cameBackBy (model prog w) A env E e s') I (fun n s hI => ?_) n h)
  refine wpAny_isTrue_value (wpAny_Constant_bool (wpAny_truthy_bool ?_))
  rw [if_pos rfl]
  refine wpAny_mono (turn n s hI) (fun f s₃ h₃ => ?_) hE
  cases f <;> exact h₃

theorem below_max {A : Around} {base h : Heap} {outer : List Env} (B : Below A base outer h) : Below A (hideAll h (outer.filterMap (·.frame))) outer h :=
  ⟨B.stack, fun b o q => of_hideAll _ q, funFrames_hide B.frames fun env he b hb => List.mem_filterMap.mpr ⟨env, he, hb⟩⟩
end

def Hold (P : Prop) : Prop := P
theorem hold_ {P : Prop} (h : Hold P) : P := h
theorem of_hold {P : Prop} (h : P) : Hold P := h

inductive LedEnd (g : Heap) (L : Addr) (m₀ : Str → Option Value) (x : Str) (led : Nat → List (Addr × Obj)) (P : Nat → Prop) (i len : Nat) (s s' : Shared) : Prop
  | mk (h' : Heap) (tk' : Nat) (u' : Str → Option Value) (q1 : i < len) (q2 : P (i + 1)) (q3 : s' = { s with heap := h', toks := tk' }) (q4 : Fr g L h' (fun z => if z = x then u' z else m₀ z)) (q5 : News g L h' (led (i + 1))) : LedEnd g L m₀ x led P i len s s'
section
variable {prog : Program} {w : World} {A : Around} {E : Value → Shared → Prop} {s : Shared} {env : Env} {body : List Stmt} {Q : Flow → Shared → Prop}
theorem while_led {k : Nat} {p pos : Pos} {g : Heap} {m₀ : Str → Option Value} {x : Str} (led : Nat → List (Addr × Obj)) (P : Nat → Prop) (len i₀ : Nat) (F : Fr g env.locals s.heap m₀) (N : News g env.locals s.heap (led i₀)) (hP : P i₀) (hi : i₀ ≤ len)
    (turn : ∀ (i : Nat) (u : Str → Option Value) (h : Heap) (tk : Nat), i ≤ len → P i → Fr g env.locals h (fun z => if z = x then u z else m₀ z) → News g env.locals h (led i) →
      wpAny (model prog w) A (execs body env) (TurnEnd (LedEnd g env.locals m₀ x led P i len { s with heap := h, toks := tk }) Q) E { s with heap := h, toks := tk })
    (hE : PassesOwn (model prog w) A env E := by passes_own) :
    wpAny (model prog w) A (exec (.While (.Constant (.bool true) k p) body [] pos) env) Q E s := by
  refine while_true (fun n s' => ∃ (h : Heap) (tk : Nat) (u : Str → Option Value) (i : Nat), n = len - i ∧ i ≤ len ∧ P i ∧ s' = { s with heap := h, toks := tk } ∧ Fr g env.locals h (fun z => if z = x then u z else m₀ z) ∧ News g env.locals h (led i)) ?_ (len - i₀) ⟨s.heap, s.toks, m₀, i₀, rfl, hi, hP, rfl, ?_, N⟩ hE
  · rintro n s' ⟨h, tk, u, i, rfl, hi, hP, rfl, F', N'⟩
    refine wpAny_mono (turn i u h tk hi hP F' N') (fun f s₃ h₃ => ?_) fun _ _ e => e
    have fin : LedEnd g env.locals m₀ x led P i len { s with heap := h, toks := tk } s₃ → ∃ m, m < len - i ∧ ∃ (h : Heap) (tk : Nat) (u : Str → Option Value) (j : Nat), m = len - j ∧ j ≤ len ∧ P j ∧ s₃ = { s with heap := h, toks := tk } ∧ Fr g env.locals h (fun z => if z = x then u z else m₀ z) ∧ News g env.locals h (led j) := by
      rintro ⟨h', tk', u', hlt, hP', rfl, F'', N''⟩
      exact ⟨len - (i + 1), by omega, h', tk', u', i + 1, rfl, hlt, hP', rfl, F'', N''⟩
    cases f with
    | next => exact fin h₃
    | cont => exact fin h₃
    | brk => exact h₃
    | ret v => exact h₃
  · have e : (fun z => if z = x then m₀ z else m₀ z) = m₀ := by funext z; split <;> rfl
    rw [e]; exact F
end

theorem fr_over {g h : Heap} {L : Addr} {x : Str} {v : Option Value} {u m₀ : Str → Option Value} (F : Fr g L h (fun z => if z = x then v else (if z = x then u z else m₀ z))) : Fr g L h (fun z => if z = x then (fun _ => v) z else m₀ z) := by
  have e : (fun z => if z = x then v else (if z = x then u z else m₀ z)) = fun z => if z = x then (fun _ => v) z else m₀ z := by
    funext z
    by_cases hz : z = x
    · simp [hz]
    · simp [hz]
  rw [e] at F; exact F
end Mine
end
section
namespace Mine
theorem pick_mem {α : Type} {B : List α} {is : List Nat} {p : α} (h : p ∈ is.filterMap (fun i => B[i]?)) : p ∈ B := by
  obtain ⟨i, _, e⟩ := List.mem_filterMap.mp h
  exact List.mem_of_getElem? e
/-- a list whose entries stand in another at the places `is`, with the other's rest behind them -/
theorem sub_of {α : Type} {A B : List α} (is : List Nat) (k : Nat) (h : is.filterMap (fun i => B[i]?) ++ B.drop k = A) : ∀ p ∈ A, p ∈ B := fun p hp => by
  rw [← h] at hp
  rcases List.mem_append.mp hp with hp | hp
  · exact pick_mem hp
  · exact List.mem_of_mem_drop hp
theorem sub_at {α : Type} {B : List α} {x : α} (i : Nat) (h : B[i]? = some x) : x ∈ B := List.mem_of_getElem? h
theorem sub_in {α : Type} {B t : List α} {x : α} (k : Nat) (hx : x ∈ t) (h : B.drop k = t) : x ∈ B := List.mem_of_mem_drop (h ▸ hx)
theorem allc {α : Type} {P : α → Prop} {x : α} {l : List α} (h : P x) (t : ∀ p ∈ l, P p) : ∀ p ∈ x :: l, P p := List.forall_mem_cons.mpr ⟨h, t⟩
theorem ne_off {L : Nat} (i j : Nat) (h : Nat.beq i j = false) : @Ne Nat (L + i) (L + j) := fun e => Nat.ne_of_beq_eq_false h (Nat.add_left_cancel e)
theorem far_ne {L D j : Nat} (h : L + j < D) (i : Nat) (hi : Nat.ble i j = true) : @Ne Nat D (L + i) := Nat.ne_of_gt (Nat.lt_of_le_of_lt (Nat.add_le_add_left (Nat.le_of_ble_eq_true hi) L) h)
theorem near_ne {L D : Nat} (h : D < L) (i : Nat) : @Ne Nat D (L + i) := Nat.ne_of_lt (Nat.lt_of_lt_of_le h (Nat.le_add_right L i))
theorem sub_gen {α : Type} {A B : List α} (is : List Nat) (t : List α) (ht : ∀ p ∈ t, p ∈ B) (h : is.filterMap (fun i => B[i]?) ++ t = A) : ∀ p ∈ A, p ∈ B := fun p hp => by
  rw [← h] at hp
  rcases List.mem_append.mp hp with hp | hp
  · exact pick_mem hp
  · exact ht p hp
theorem sub_or {α : Type} {A B : List α} {Q : α → Prop} (is : List Nat) (t : List α) (ht : ∀ p ∈ t, p ∈ B ∨ Q p) (h : is.filterMap (fun i => B[i]?) ++ t = A) : ∀ p ∈ A, p ∈ B ∨ Q p := fun p hp => by
  rw [← h] at hp
  rcases List.mem_append.mp hp with hp | hp
  · exact .inl (pick_mem hp)
  · exact ht p hp
theorem sub_at' {α : Type} {A B : List α} (is : List Nat) (h : is.filterMap (fun i => B[i]?) = A) : ∀ p ∈ A, p ∈ B := fun _ hp => pick_mem (h ▸ hp)
theorem sub_all {α : Type} {P : α → Prop} {s t : List α} (h : ∀ p ∈ s, P p) (k : ∀ p ∈ t, P p) : ∀ p ∈ s ++ t, P p := fun p hp => (List.mem_append.mp hp).elim (h p) (k p)
theorem app_skip {α : Type} {a t : List α} {d p : α} (h : p ∈ a ++ t) : p ∈ a ++ d :: t := by
  rcases List.mem_append.mp h with h | h
  · exact List.mem_append_left _ h
  · exact List.mem_append_right _ (.tail _ h)
end Mine
end
section
open PySem PySem.W PyProof.Rows PySem.Calls
set_option maxRecDepth 100000
set_option maxHeartbeats 0
namespace Mine
def boundIn (l : Addr) : Obj := { cls := .type "method-wrapper", data := .fields #[.builtin "list.__contains__", .ref l] }
theorem lk_list_contains : typeLookup (.type "list") "__contains__" = pure (some (.builtin "list.__contains__")) := by rw [typeLookup_type, builtinLookup_eq_fast]; kernel_rfl
theorem type_lc : typeOf (.builtin "list.__contains__") = pure (.type "wrapper_descriptor") := by show builtinType _ = _; rw [builtinType_eq_fast]; kernel_rfl
theorem slot_wd_get : Slot "wrapper_descriptor" "__get__" "wrapper_descriptor.__get__" :=
  .of (owner := "wrapper_descriptor") (n := "__get__") (by rw [typeLookup_type, builtinLookup_eq_fast]; kernel_rfl) (by decide +kernel) (by decide +kernel) (by decide +kernel)
    (by first | exact .inl (by decide +kernel) | exact .inr (by decide +kernel)) (by rw [isSubtype_type]; kernel_rfl)
theorem wd_no_set : typeLookup (.type "wrapper_descriptor") "__set__" = pure none := by rw [typeLookup_type, builtinLookup_eq_fast]; kernel_rfl
theorem wd_no_del : typeLookup (.type "wrapper_descriptor") "__delete__" = pure none := by rw [typeLookup_type, builtinLookup_eq_fast]; kernel_rfl
theorem entry_wd_get : entryFor table "wrapper_descriptor.__get__" = some Builtin.«wrapper_descriptor.__get__» := entryFor_of_tree (by kernel_rfl)
theorem args_wd_get (a b c : Value) : argsOk "wrapper_descriptor.__get__" ⟨[a, b, c], []⟩ := by unfold argsOk; kernel_rfl
theorem type_wd : typeOf (.builtin "wrapper_descriptor.__get__") = pure (.type "wrapper_descriptor") := by show builtinType _ = _; rw [builtinType_eq_fast]; kernel_rfl
theorem list_no_getattr : typeLookup (.type "list") "__getattr__" = pure none := list_getattr_none
theorem owner_lc : ".".intercalate ("list.__contains__".cutAt '.').dropLast = "list" := by first | rfl | decide +kernel | kernel_rfl
section
variable {prog : Program} {w : World} {A : Around} {E : Value → Shared → Prop} {s : Shared} {h : Heap} {g : Array GenState} {d : Drawn} {t : Nat} {os : OsState} {a : Addr} {o : Obj}
theorem wd_get_run {Q : Fin → Shared → Prop} (hx : h.get? a = some o) (hc : o.cls = .type "list") (hq : Q (.done (.ret (.ref h.objs.size))) ⟨h.push (boundIn a), g, d, t, os⟩) :
    wpAny (model prog w) A (Builtin.«wrapper_descriptor.__get__» ⟨[.builtin "list.__contains__", .ref a, .type "list"], []⟩) Q E ⟨h, g, d, t, os⟩ := by
  have hT : (⟨h, g, d, t, os⟩ : Shared).TypeIs (.ref a) "list" := ⟨_, hx, hc⟩
  have f8 : isSubtype (.type "list") (.type "list") = pure true := sub_list_self
  unfold Builtin.«wrapper_descriptor.__get__»
  repeat (any_goals (first | assumption | wp_step))
  rw [owner_lc]
  repeat (any_goals (first | assumption | wp_step))
theorem wd_get_call {Q : Value → Shared → Prop} (hx : h.get? a = some o) (hc : o.cls = .type "list") (hq : Q (.ref h.objs.size) ⟨h.push (boundIn a), g, d, t, os⟩) :
    wpAny (model prog w) A (call (.builtin "wrapper_descriptor.__get__") [.builtin "list.__contains__", .ref a, .type "list"]) Q E ⟨h, g, d, t, os⟩ :=
  wpAny_call_entry slot_wd_get type_lc entry_wd_get (wd_get_run hx hc ⟨_, rfl, hq⟩) (args_wd_get _ _ _)
theorem lga_run {tk : Tok} {xs : Array Value} {k : Nat} {sl : Array (Option Value)} {Q : Fin → Shared → Prop} (hx : h.get? a = some { cls := .type "list", dict := none, data := .seq xs k, slots := sl }) (hq : Q (.done (.ret (.ref h.objs.size))) ⟨h.push (boundIn a), g, d, t, os⟩) :
    wpAny (model prog w) A (Builtin.«object.__getattribute__» ⟨[.ref a, .str "__contains__" tk], []⟩) Q E ⟨h, g, d, t, os⟩ := by
  have hT : (⟨h, g, d, t, os⟩ : Shared).TypeIs (.ref a) "list" := ⟨_, hx, rfl⟩
  have f4 := lk_list_contains
  have f5 := type_lc
  have f6 := slot_wd_get.lookup
  have f7 := wd_no_set
  have f9 := wd_no_del
  unfold Builtin.«object.__getattribute__»
  repeat (any_goals (first | assumption | ((with_reducible show wpAny _ _ (call (Value.builtin "wrapper_descriptor.__get__") _ _) _ _ _); refine wd_get_call hx rfl ?_) | wp_step))
theorem lga_call {tk : Tok} {xs : Array Value} {k : Nat} {sl : Array (Option Value)} {R : Result → Shared → Prop} (hx : h.get? a = some { cls := .type "list", dict := none, data := .seq xs k, slots := sl }) (hq : R (.ok (.ret (.ref h.objs.size))) ⟨h.push (boundIn a), g, d, t, os⟩) :
    codeAny (model prog w) A (.call (.builtin "list.__getattribute__") ⟨[.ref a, .str "__contains__" tk], []⟩) R ⟨h, g, d, t, os⟩ :=
  codeAny_call_builtin F.slot_list_getattribute.plain F.entry_list_ga (F.slot_list_getattribute.check _ _ _ _ _ _ _ _ (show (⟨h, g, d, t, os⟩ : Shared).TypeIs (.ref a) "list" from ⟨_, hx, rfl⟩) (F.args_list_getattribute_2 _ _) (lga_run hx hq))
theorem getattr_contains {xs : Array Value} {k : Nat} {sl : Array (Option Value)} {Q : Value → Shared → Prop} (hx : h.get? a = some { cls := .type "list", dict := none, data := .seq xs k, slots := sl }) (hq : Q (.ref h.objs.size) ⟨h.push (boundIn a), g, d, t + 1, os⟩) :
    wpAny (model prog w) A (getAttr (.ref a) "__contains__" true) Q E ⟨h, g, d, t, os⟩ := by
  have hT : ∀ tk', (⟨h, g, d, tk', os⟩ : Shared).TypeIs (.ref a) "list" := fun _ => ⟨_, hx, rfl⟩
  have f3 := F.slot_list_getattribute.lookup
  have f4 := F.slot_list_getattribute.bind (.ref a)
  unfold getAttr getAttrBy
  repeat (any_goals (first | assumption | exact hT _ | ((with_reducible show codeAny _ _ (Code.call (Value.builtin "list.__getattribute__") _) _ _); refine lga_call hx ?_) | wp_step))
theorem check_lc (l : Addr) (v : Value) : checkBoundCall "list.__contains__" ⟨[.ref l, v], []⟩ = pure () := by first | kernel_rfl | rfl
theorem quiet_lc {as : Args} : (Code.builtin "list.__contains__" as).quiet = true := Code.quiet_builtin _ (by decide +kernel)
theorem call_contains {x l : Addr} {vs : List Value} {ys : List Str} {kk : Str} {tk : Tok} {s : Shared} {Q : Value → Shared → Prop} (ho : s.heap.get? x = some (boundIn l)) (hl : s.heap.IsList l vs.toArray) (hi : StrsAre vs ys)
    (h : Q (.bool (ys.any (· == kk))) s) : wpAny (model prog w) A (call (.ref x) [.str kk tk]) Q E s := by
  refine wpAny_call (codeAny_of_tree ?_)
  show wpAny _ A.in1 (callAny (.ref x) ⟨[.str kk tk], []⟩) _ _ s
  simp only [callAny]
  refine wpAny_bind (wpAny_load ho ?_)
  simp only [boundIn, show (Value.type "method-wrapper" == Value.type "method" || Value.type "method-wrapper" == Value.type "builtin_function_or_method" || Value.type "method-wrapper" == Value.type "method-wrapper") = true by decide, if_true]
  refine KFB.if_so (by decide) ?_
  refine wpAny_bind (wpAny_of_eq (a := ()) (check_lc _ _) ?_)
  refine wpAny_bind (wpAny_pure (wpAny_pure ?_))
  obtain ⟨⟨cls, dd, data, sl⟩, ho2, hc, n, hd⟩ := id hl
  simp only at hc hd
  subst hc hd
  exact ⟨quiet_lc, codeAny_builtin F.entry_list_contains (SeqInW.list_containsW l vs.toArray n dd sl _ (isStrOf kk) (fun y hy => eq_isStrOf kk tk hi y (by simpa using hy)) prog w _ _ _ ⟨ho2, by rw [← Array.any_toList, show vs.toArray.toList = vs from rfl, any_isStrOf kk hi]; exact h⟩)⟩
theorem getattr_containsN {s : Shared} {h₀ : Heap} {L sk : Addr} {m : Str → Option Value} {news : List (Addr × Obj)} {items : Array Value} {Q : Value → Shared → Prop} (F : Fr h₀ L s.heap m) (N : News h₀ L s.heap news) (hl : h₀.PlainList sk items)
    (h : ∀ x h', Fr h₀ L h' m → News h₀ L h' ((x, boundIn sk) :: news) → (∀ p ∈ news, p.1 < x) → Q (.ref x) { s with heap := h', toks := s.toks + 1 }) :
    wpAny (model prog w) A (getAttr (.ref sk) "__contains__" true) Q E s := by
  obtain ⟨n, e⟩ := hl
  obtain ⟨hp, g, d, t, os⟩ := s
  exact getattr_contains (F.keep _ _ e) (h _ _ (F.push _) (N.push F _) fun p hp => Heap.lt_size (N p hp).1)
end

def BAt (u l : Addr) (h : Heap) : Prop := h.get? u = some (boundIn l)
section
variable {prog : Program} {w : World} {M : Model} {A : Around} {E : Value → Shared → Prop} {s : Shared} {h₀ : Heap} {L : Addr} {m : Str → Option Value} {news : List (Addr × Obj)}
theorem bat_of {u l : Addr} {h : Heap} (N : News h₀ L h news) (hm : (u, boundIn l) ∈ news) : BAt u l h := N.get hm
theorem callWith_bm {pos : Pos} {u l : Addr} {first : List Value} {args : List (Bool × Sem Value)} {Q : Value → Shared → Prop} (hplain : args.any (·.1) = false)
    (h : wpAny M A (evalArgs (.ref u) true args []) (fun x s₁ => BAt u l s₁.heap ∧ wpAny M A (call (.ref u) (first ++ x.pos) x.kw) Q E s₁) E s) : wpAny M A (callWith pos (.ref u) first args []) Q E s := by
  unfold callWith
  refine wpAny_bind (wpAny_holding (wpAny_mono h (fun x s₁ h₁ => wpAny_bind (wpAny_standAt ?_)) fun _ _ x => x))
  obtain ⟨ho, hcall⟩ := h₁
  simp only [hplain, List.any_nil, Bool.or_false]
  refine wpAny_bind (m := keeperOf (.ref u)) ?_
  unfold keeperOf
  refine wpAny_bind (wpAny_load ho ?_)
  simp only [boundIn, show (Value.type "method-wrapper" != Value.type "method") = true by decide, show (Value.type "method-wrapper" == Value.type "builtin_function_or_method" || Value.type "method-wrapper" == Value.type "method-wrapper") = true by decide, if_true]
  refine wpAny_pure ?_
  exact wpAny_bind (wpAny_mono hcall (fun r s₂ hr => wpAny_bind (wpAny_holding (wpAny_point (wpAny_pure hr)))) fun _ _ x => x)
theorem callWith_bmN {pos : Pos} {u l : Addr} {first : List Value} {env : Env} {e : Expr} {rest : List Expr} {Q : Value → Shared → Prop} (_N : News h₀ L s.heap news) (_hm : (u, boundIn l) ∈ news)
    (h : wpAny M A (spliced (backTo pos (starEach (e :: rest) env))) (fun vs s₁ => BAt u l s₁.heap ∧ wpAny M A (call (.ref u) (first ++ vs)) Q E s₁) E s)
    (he : starEach (e :: rest) env = (false, eval e env) :: starEach rest env := by rfl) (hplain : (backTo pos (starEach rest env)).any (·.1) = false := by rfl) :
    wpAny M A (callWith pos (.ref u) first (backTo pos (starEach (e :: rest) env)) []) Q E s := by
  rw [he] at h ⊢
  refine callWith_bm (l := l) (by show (false || (backTo pos (starEach rest env)).any (·.1)) = false; rw [hplain]; rfl) ?_
  exact evalArgs_plain h
theorem call_containsN {x l : Addr} {vs : List Value} {ys : List Str} {kk : Str} {tk : Tok} {Q : Value → Shared → Prop} (N : News h₀ L s.heap news) (hm : (x, boundIn l) ∈ news) (hl : s.heap.IsList l vs.toArray) (hi : StrsAre vs ys)
    (h : Q (.bool (ys.any (· == kk))) s) : wpAny (model prog w) A (call (.ref x) [.str kk tk]) Q E s := call_contains (N.get hm) hl hi h
end
end Mine
end
section
open PySem PySem.W PyProof.Rows PySem.Calls
set_option maxRecDepth 100000
set_option maxHeartbeats 0
namespace Mine
/-- a list's iterator at a place; behind the end -/
def itObj (l : Addr) (i : Nat) : Obj := { cls := .type "list_iterator", data := .fields #[.ref l, .int i 0] }
def itEnd (i : Nat) : Obj := { cls := .type "list_iterator", data := .fields #[.none, .int i 0] }
section
variable {prog : Program} {w : World} {A : Around} {E : Value → Shared → Prop} {s : Shared} {h₀ : Heap} {L l it : Addr} {m : Str → Option Value} {news : List (Addr × Obj)} {items : Array Value} {g : Obj → List (Addr × Obj)} {x : Value} {i : Nat}
theorem iter_listN {Q : Value → Shared → Prop} (F : Fr h₀ L s.heap m) (N : News h₀ L s.heap news) (hl : s.heap.IsList l items)
    (h : ∀ I h', Fr h₀ L h' m → News h₀ L h' ((I, itObj l 0) :: news) → (∀ p ∈ news, p.1 < I) → Q (.ref I) { s with heap := h' }) :
    wpAny (model prog w) A (call (.builtin "iter") [.ref l]) Q E s := by
  refine call_function_entry (by decide +kernel) (by decide +kernel) kdk_entry_iter (kdk_args_iter _) ?_
  unfold Builtin.«iter»
  refine wpAny_bind (m := someArgs "iter" 1 2 _) (wpAny_of_eq (a := [Value.ref l]) (by first | rfl | kernel_rfl!) ?_)
  show wpAny _ _ (pyIter (.ref l) >>= _) _ _ _
  refine wpAny_bind (wpAny_pyIter_list hl ?_)
  exact wpAny_pure ⟨_, rfl, h _ _ (F.push _) (News.push F N _ rfl) (fun q hq => Heap.lt_size (N q hq).1)⟩

theorem isListIter_of {h : Heap} (e : h.get? it = some (itObj l i)) : h.IsListIter it l i := ⟨_, e, rfl, rfl⟩

theorem special_item {Q : Option Value → Shared → Prop} (ho : s.heap.get? it = some (itObj l i)) (hl : s.heap.IsList l items) (hx : items[i]? = some x)
    (hQ : Q (some x) { s with heap := s.heap.update it (Obj.mapFields (·.setIfInBounds 1 (rawInt ((i : Int) + 1)))) }) :
    wpAny (model prog w) A (callSpecial? (.ref it) (Str.ofString "__next__")) Q E s := by
  have hit := isListIter_of ho
  have hd : (itObj l i).data = .fields #[.ref l, .int i 0] := rfl
  obtain ⟨ol, hol, _, nl, hdl⟩ := hl
  refine wpAny_callSpecial?_slot (name := Str.ofString "__next__") hit.typeIs slot_listiter_next (wpAny_call_entry slot_listiter_next hit.typeIs entry_listiter_next ?_ (args_listiter_next _))
  show wpAny _ _ (field (.ref it) 0 >>= _) _ _ s
  refine wpAny_bind (wpAny_field ho hd (x := .ref l) rfl ?_)
  show wpAny _ _ (if (Value.ref l == Value.none) = true then _ else _) _ _ s
  rw [if_neg (show ¬ ((Value.ref l == Value.none) = true) from Bool.false_ne_true)]
  show wpAny _ _ (field (.ref it) 1 >>= _) _ _ s
  refine wpAny_bind (wpAny_field ho hd (x := .int i 0) rfl ?_)
  show wpAny _ _ (seqItems? (.ref l) >>= _) _ _ s
  refine wpAny_bind (wpAny_seqItems hol hdl ?_)
  simp only [Int.toNat_natCast, hx]
  refine wpAny_bind (wpAny_setField ho hd (by simp) ?_)
  exact wpAny_pure ⟨_, rfl, hQ⟩
theorem upd_it : Obj.mapFields (·.setIfInBounds 1 (rawInt ((i : Int) + 1))) (itObj l i) = itObj l (i + 1) := by
  unfold itObj Obj.mapFields rawInt
  simp
theorem upd_end : Obj.mapFields (·.setIfInBounds 0 Value.none) (itObj l i) = itEnd i := by
  unfold itObj itEnd Obj.mapFields
  simp

theorem next_itemN {Q : Value → Shared → Prop} (F : Fr h₀ L s.heap m) (N : News h₀ L s.heap news) (U : UpdF it (itObj l i) news g) (hl : s.heap.IsList l items) (hx : items[i]? = some x)
    (h : ∀ h', Fr h₀ L h' m → News h₀ L h' (g (itObj l (i + 1))) → Q x { s with heap := h' }) :
    wpAny (model prog w) A (call (.builtin "next") [.ref it]) Q E s := by
  obtain ⟨pre, post, hls, hg, a, b⟩ := U.split
  have hmem : (it, itObj l i) ∈ news := by rw [hls]; exact List.mem_append_right _ (.head _)
  have hm := N (it, itObj l i) hmem
  have hit := isListIter_of hm.1
  refine call_function_entry (by decide +kernel) (by decide +kernel) kdk_entry_next (kdk_args_next _) ?_
  unfold Builtin.«next»
  refine wpAny_bind (m := someArgs "next" 1 2 _) (wpAny_of_eq (a := [Value.ref it]) (by first | rfl | kernel_rfl!) ?_)
  dsimp only
  refine wpAny_bind (wpAny_specialOf (name := Str.ofString "__next__") hit.typeIs slot_listiter_next.lookup ?_)
  refine wpAny_ite_split (fun hab => absurd hab (by decide)) (fun _ => ?_)
  refine wpAny_bind (special_item hm.1 hl hx ?_)
  have ⟨U1, U2⟩ := news_upd (f := Obj.mapFields (·.setIfInBounds 1 (rawInt ((i : Int) + 1)))) F (hls ▸ N) a b upd_it rfl
  exact wpAny_pure ⟨_, rfl, h _ U1 (hg _ ▸ U2)⟩

theorem own_stop : ownMembersOf (.type "StopIteration") [] = #[] := by
  first | rfl | decide +kernel | (unfold ownMembersOf; split <;> first | rfl | (rename_i h; revert h; decide) | simp_all)
theorem special_end {Q : Option Value → Shared → Prop} (hh : A.handled = none) (ho : s.heap.get? it = some (itObj l i)) (hl : s.heap.IsList l items) (hx : items[i]? = none)
    (hE : ∀ h' e, Heap.NewExc (s.heap.update it (Obj.mapFields (·.setIfInBounds 0 Value.none))) h' e "StopIteration" → E (.ref e) { s with heap := h' }) :
    wpAny (model prog w) A (callSpecial? (.ref it) (Str.ofString "__next__")) Q E s := by
  have hit := isListIter_of ho
  have hd : (itObj l i).data = .fields #[.ref l, .int i 0] := rfl
  obtain ⟨ol, hol, _, nl, hdl⟩ := hl
  refine wpAny_callSpecial?_slot (name := Str.ofString "__next__") hit.typeIs slot_listiter_next (wpAny_call_entry slot_listiter_next hit.typeIs entry_listiter_next ?_ (args_listiter_next _))
  show wpAny _ _ (field (.ref it) 0 >>= _) _ _ s
  refine wpAny_bind (wpAny_field ho hd (x := .ref l) rfl ?_)
  show wpAny _ _ (if (Value.ref l == Value.none) = true then _ else _) _ _ s
  rw [if_neg (show ¬ ((Value.ref l == Value.none) = true) from Bool.false_ne_true)]
  show wpAny _ _ (field (.ref it) 1 >>= _) _ _ s
  refine wpAny_bind (wpAny_field ho hd (x := .int i 0) rfl ?_)
  show wpAny _ _ (seqItems? (.ref l) >>= _) _ _ s
  refine wpAny_bind (wpAny_seqItems hol hdl ?_)
  simp only [Int.toNat_natCast, hx]
  refine wpAny_bind (wpAny_rule (wpAny_bind (wpAny_setField ho hd (by simp) ?_)))
  show wpAny _ _ (newExc (.type "StopIteration") [] >>= _) _ _ _
  refine wpAny_bind ?_
  simp only [newExc, newTuple]
  refine wpAny_bind (wpAny_newObj_type ?_ (by size_fits))
  refine wpAny_bind (m := firstArgMember _ _) (wpAny_of_eq (a := Value.none) (by first | rfl | (simp only [firstArgMember]; rfl)) ?_)
  refine wpAny_newObj_type ?_ (by size_fits)
  simp only [raiseNew]
  refine wpAny_bind (wpAny_handled ?_)
  rw [show A.in1.handled = none from hh]
  refine wpAny_bind (wpAny_pure (wpAny_throw ?_))
  refine hE _ _ ⟨fun b o hb => Heap.get?_push_of_some _ (Heap.get?_push_of_some _ hb), ?_, ?_⟩
  · refine Heap.get?_none_of_le ?_
    rw [Heap.size_push]; exact Nat.le_succ _
  · exact ⟨_, .ref (s.heap.update it (Obj.mapFields (·.setIfInBounds 0 Value.none))).objs.size, Heap.get?_push_size _ rfl, rfl, by rw [own_stop]; rfl⟩
theorem next_endN {Q : Value → Shared → Prop} (hh : A.handled = none) (F : Fr h₀ L s.heap m) (N : News h₀ L s.heap news) (U : UpdF it (itObj l i) news g) (hl : s.heap.IsList l items) (hx : items[i]? = none)
    (h : ∀ h₁ h' e, Fr h₀ L h₁ m → News h₀ L h₁ (g (itEnd i)) → Heap.NewExc h₁ h' e "StopIteration" → E (.ref e) { s with heap := h' }) :
    wpAny (model prog w) A (call (.builtin "next") [.ref it]) Q E s := by
  obtain ⟨pre, post, hls, hg, a, b⟩ := U.split
  have hmem : (it, itObj l i) ∈ news := by rw [hls]; exact List.mem_append_right _ (.head _)
  have hm := N (it, itObj l i) hmem
  have hit := isListIter_of hm.1
  refine call_function_entry (by decide +kernel) (by decide +kernel) kdk_entry_next (kdk_args_next _) ?_
  unfold Builtin.«next»
  refine wpAny_bind (m := someArgs "next" 1 2 _) (wpAny_of_eq (a := [Value.ref it]) (by first | rfl | kernel_rfl!) ?_)
  dsimp only
  refine wpAny_bind (wpAny_specialOf (name := Str.ofString "__next__") hit.typeIs slot_listiter_next.lookup ?_)
  refine wpAny_ite_split (fun hab => absurd hab (by decide)) (fun _ => ?_)
  have ⟨U1, U2⟩ := news_upd (f := Obj.mapFields (·.setIfInBounds 0 Value.none)) F (hls ▸ N) a b upd_end rfl
  exact wpAny_bind (special_end hh hm.1 hl hx fun h' e hn => h _ h' e U1 (hg _ ▸ U2) hn)
end
end Mine
end
section
open PySem PySem.W PyProof.Rows
set_option maxRecDepth 100000
set_option maxHeartbeats 0
namespace Mine
abbrev Strs := StrsAre
theorem strs_get {vs : List Value} {xs : List Str} (h : Strs vs xs) : ∀ {i : Nat} {v : Value}, vs[i]? = some v → ∃ x t, xs[i]? = some x ∧ v = .str x t := by
  induction h with
  | nil => intro i v e; simp at e
  | @cons x t vs xs _ ih =>
    intro i v e
    cases i with
    | zero => exact ⟨x, t, rfl, (Option.some.inj e).symm⟩
    | succ i => exact ih e
def headPart (u : Str) : Str := ((Txt.split u (Str.ofString "/"))[0]?).getD u
theorem headPart_of {u y : Str} {xs : List Str} (e : xs = Txt.split u (Str.ofString "/")) (h : xs[Int.toNat 0]? = some y) : y = headPart u := by
  subst e; unfold headPart; show y = (((Txt.split u (Str.ofString "/"))[Int.toNat 0]?).getD u); rw [h]; rfl
def hasIn (u x : Str) : Bool := !(Builtin.Str.occurrences u x 0 u.length 1).isEmpty
def hits (u x : Str) : Bool := !(x == Str.ofString "*") && hasIn (Txt.lower (headPart u)) (Txt.lower x)
local macro_rules | `(tactic| k_get) => `(tactic| assumption)
theorem hits_no1 {u x : Str} (h : (x != Str.ofString "*") = false) : hits u x = false := by
  unfold hits
  have : (x == Str.ofString "*") = true := by simpa using h
  rw [this]; rfl
theorem hits_no2 {u x y : Str} (e : y = headPart u) (h : (Builtin.Str.occurrences (Txt.lower y) (Txt.lower x) 0 (Txt.lower y).length 1).isEmpty = true) : hits u x = false := by subst e; unfold hits hasIn; rw [h]; simp
theorem hits_yes {u x y : Str} (e : y = headPart u) (h1 : (x != Str.ofString "*") = true) (h : (Builtin.Str.occurrences (Txt.lower y) (Txt.lower x) 0 (Txt.lower y).length 1).isEmpty = false) : hits u x = true := by
  subst e; unfold hits hasIn; rw [h]
  have : (x == Str.ofString "*") = false := by simpa using h1
  rw [this]; rfl
theorem any_yes {α : Type} {p : α → Bool} {xs : List α} {i : Nat} {x : α} (hx : xs[i]? = some x) (h : p x = true) : xs.any p = true := List.any_eq_true.mpr ⟨x, List.mem_of_getElem? hx, h⟩
theorem any_no {α : Type} {p : α → Bool} {xs : List α} (h : ∀ x ∈ xs, p x = false) : xs.any p = false := List.any_eq_false.mpr fun x hx => by rw [h x hx]; decide
theorem take_step {α : Type} {p : α → Prop} {xs : List α} {i : Nat} {x : α} (hJ : ∀ x ∈ xs.take i, p x) (hx : xs[i]? = some x) (h : p x) : ∀ x ∈ xs.take (i + 1), p x := by
  intro z hz
  rw [List.take_add_one, hx] at hz
  rcases List.mem_append.mp hz with q | q
  · exact hJ z q
  · simp at q; exact q ▸ h
theorem strs_length {vs : List Value} {xs : List Str} (h : Strs vs xs) : vs.length = xs.length := by induction h with | nil => rfl | cons _ _ _ ih => simp [ih]
end Mine
end
section
open PySem PySem.W PyProof.Rows
set_option maxRecDepth 100000
set_option maxHeartbeats 0
namespace Mine
local macro_rules | `(tactic| walk_at "getAttr ref") => `(tactic| (k_here; (with_reducible show wpAny _ _ (getAttr (Value.ref _) (PySem.Str.ofString "__contains__") _) _ _ _); refine' getattr_containsN ?k1 ?k2 ?k3 ?_; (case k1 => k_asm); (case k2 => k_asm); (case k3 => assumption); k_whole; intro x' h' F' N' l1; (try k_lt l1); (try k_sweep)))
local macro_rules | `(tactic| walk_at "call builtin:iter") => `(tactic| (k_here; (with_reducible show wpAny _ _ (call (Value.builtin "iter") [Value.ref _]) _ _ _); refine' iter_listN ?k1 ?k2 ?k3 ?_; (case k1 => k_asm); (case k2 => k_asm); (case k3 => is_list); k_whole; intro x' h' F' N' l1; (try k_lt l1); (try k_sweep)))
local macro_rules | `(tactic| is_list) => `(tactic| exact Fr.lst (by assumption) (Fr.lst (by assumption) (by assumption)))
local macro_rules | `(tactic| k_room) => `(tactic| ktr_room)
abbrev instFF (d bm it : Addr) : Obj := { cls := Value.ref 89, dict := some d, slots := #[some (Value.ref bm), some (Value.ref it)] }
local macro_rules | `(tactic| walk_at "call builtin:next") => `(tactic| (k_here; (with_reducible show wpAny _ _ (call (Value.builtin "next") [Value.ref _]) _ _ _); refine' next_itemN ?k1 ?k2 ?k3 ?k4 ?k5 ?_; (case k1 => k_asm); (case k2 => k_asm); (case k3 => k_updF); (case k4 => is_list); (case k5 => assumption); k_whole; intro h' F' N'; (try dsimp only at N'); (try k_sweep)))
local macro_rules | `(tactic| walk_at "call builtin:next") => `(tactic| (k_here; (with_reducible show wpAny _ _ (call (Value.builtin "next") [Value.ref _]) _ _ _); refine' next_endN ?k0 ?k1 ?k2 ?k3 ?k4 ?k5 ?_; (case k0 => exact rfl); (case k1 => k_asm); (case k2 => k_asm); (case k3 => k_updF); (case k4 => is_list); (case k5 => assumption); k_whole; intro h1' h' e' F' N' x'; (try dsimp only at N')))
local macro_rules | `(tactic| walk_at "callWith ref") => `(tactic| (k_here; (with_reducible show wpAny _ _ (callWith _ (Value.ref _) _ (backTo _ (starEach (_ :: _) _)) []) _ _ _); k_dflt (refine' callWith_bmN ?k1 ?k2 ?_; (case k1 => k_asm); (case k2 => k_mem); k_whole)))
local macro_rules | `(tactic| walk_at "And") => `(tactic| ((with_reducible show BAt _ _ _ ∧ _); k_dflt (refine ⟨bat_of (by k_asm) (by k_mem), ?_⟩); (try dsimp only [List.nil_append, List.cons_append])))
local macro_rules | `(tactic| walk_at "call ref") => `(tactic| (k_here; (with_reducible show wpAny _ _ (call (Value.ref _) [Value.str _ _]) _ _ _); k_dflt (refine' call_containsN ?k1 ?k2 ?k3 ?k4 ?_; (case k1 => k_asm); (case k2 => k_mem); (case k3 => is_list); (case k4 => assumption); k_whole)))
local macro_rules | `(tactic| walk_at "exec While") => `(tactic| refine hold_ ?_)
theorem ff_next {w : World} {loose : List Str} {mean : ExcName → Option Value} {mg mb : Str → Option Value}
  {dp un : Nat} {gd : Option (List Code)} {cn : Str} {cs : Scope} {a : Addr} {ccd : Value} {cl : List (Str × Addr)} {outer : List Env} {A₀ : Around} {base h₀ : Heap} {L : Addr} {m : Str → Option Value} {s : Shared} {Q E : Value → Shared → Prop}
  {S it x d bm fl sk : Addr} {oS : Obj} {i : Nat} {vs ws : List Value} {xs ys : List Str}
  (B : Below A₀ base outer h₀) (F : Fr h₀ L s.heap m) (X : (hd.heap_39 w.params).In h₀) (T : Top topProg loose mean mg mb h₀) (hk : cs.kind = .function) (hdp : dp + 2 < recursionLimit) (hun : un + 32 < cLine)
  (N : News h₀ L s.heap [(S, oS), (it, itObj fl i), (x, instFF d bm it), (d, dictOf [] 0), (bm, boundIn sk)])
  (l1 : @LT.lt Nat _ bm d) (l2 : @LT.lt Nat _ d x) (l3 : @LT.lt Nat _ x it) (l4 : @LT.lt Nat _ it S)
  (hl : h₀.IsList fl vs.toArray) (hs : Strs vs xs) (hl2 : h₀.IsList sk ws.toArray) (hs2 : vs ≠ [] → Strs ws ys)
  (hret : ∀ j v h' tk', i ≤ j → vs[j]? = some v → (∃ y, xs[j]? = some y ∧ ys.any (· == y) = false) → (∀ k z, i ≤ k → k < j → xs[k]? = some z → ys.any (· == z) = true) → Fr h₀ L h' m → News h₀ L h' [(S, oS), (it, itObj fl (j + 1)), (x, instFF d bm it), (d, dictOf [] 0), (bm, boundIn sk)] → Q v { s with heap := h', toks := tk' })
  (hexc : (∀ k z, i ≤ k → xs[k]? = some z → ys.any (· == z) = true) → ∀ e h' tk' n, RaisedN base (envX cn cs L a ccd cl :: outer) e (.type "StopIteration") [(S, oS), (it, itEnd n), (x, instFF d bm it), (d, dictOf [] 0), (bm, boundIn sk)] h' → h₀.UpToSlots h' → E (.ref e) { s with heap := h', toks := tk' }) :
  wpAny (model Challenge.rw_ij0195_02.row.prog w) (ktrTop dp un gd cn cs L a ccd cl outer) (call (.ref 85) [.ref x]) Q E s := by
  w_strict (
    (revert X; k_fill; intro X)
    refine wpAny_call ?_
    cell_enter
    k_steps
    refine of_hold ?_
    refine' while_led (x := Str.ofString "item") (fun i => [(S, oS), (it, itObj fl i), (x, instFF d bm it), (d, dictOf [] 0), (bm, boundIn sk)]) (fun k => i ≤ k ∧ ∀ j z, i ≤ j → j < k → xs[j]? = some z → ys.any (· == z) = true) (max i xs.length) i ?h1 ?h2 ?h3 ?h4 ?h5
    (case h1 => k_asm)
    (case h2 => k_asm)
    (case h3 => exact ⟨Nat.le_refl _, fun j z a b => absurd (Nat.lt_of_le_of_lt a b) (Nat.lt_irrefl _)⟩)
    (case h4 => exact Nat.le_max_left _ _)
    (case h5 =>
      intro k u h2 tk2 hk2 hP F2 N2
      obtain ⟨hik, hP⟩ := hP
      (try dsimp only)
      (try k_fold)
      rcases hx : vs.toArray[k]? with _ | v
      · have hlen : xs.length ≤ k := by
          have := strs_length hs
          simp at hx
          omega
        k_steps
        refine hexc (fun j z hj hz => hP j z hj ?_ hz) _ _ _ k (by assumption) ((Heap.UpToSlots.of_keeps (Fr.keep (by assumption))).trans (by assumption))
        exact Nat.lt_of_lt_of_le (List.getElem?_eq_some_iff.mp hz).1 hlen
      · have hx' : vs[k]? = some v := by simpa using hx
        obtain ⟨y, t, hy, e⟩ := strs_get hs hx'
        subst e
        have hs3 := hs2 (by intro h; simp [h] at hx')
        have hlt : k < xs.length := (List.getElem?_eq_some_iff.mp hy).1
        k_steps
        · refine ⟨_, _, fun _ => some (.str y t), Nat.lt_of_lt_of_le hlt (Nat.le_max_right _ _), ⟨Nat.le_succ_of_le hik, fun j z h1 h2 hz => ?_⟩, rfl, fr_over (by assumption), by assumption⟩
          rcases Nat.lt_succ_iff_lt_or_eq.mp h2 with h3 | h3
          · exact hP j z h1 h3 hz
          · subst h3
            rw [hy] at hz
            cases hz
            assumption
        · dsimp only
          k_steps
          dsimp only [TurnEnd]
          k_steps
          exact hret k (.str y t) _ _ hik hx' ⟨y, hy, by assumption⟩ hP (by assumption) (by assumption)))
end Mine
end
section
open PySem PySem.W PyProof.Rows PySem.Calls
set_option maxRecDepth 100000
set_option maxHeartbeats 0
namespace Mine
def lstObj (acc : Array Value) (c : Nat) : Obj := { cls := .type "list", dict := none, data := .seq acc c, slots := #[] }
def keepP (ys : List Str) : Value → Bool
  | .str y _ => !(ys.any (· == y))
  | _ => true
theorem keep_next {ys : List Str} : ∀ {n i j : Nat} {vs : List Value} {xs : List Str} {v : Value}, j - i = n → i ≤ j → Strs vs xs → vs[j]? = some v → (∃ y, xs[j]? = some y ∧ ys.any (· == y) = false) → (∀ k z, i ≤ k → k < j → xs[k]? = some z → ys.any (· == z) = true) →
    (vs.drop i).filter (keepP ys) = v :: (vs.drop (j + 1)).filter (keepP ys) := by
  intro n
  induction n with
  | zero =>
    intro i j vs xs v hn hij hs hv hy hk
    have e : i = j := by omega
    subst e
    obtain ⟨y, hxy, hin⟩ := hy
    obtain ⟨y', t, hxy', rfl⟩ := strs_get hs hv
    rw [hxy] at hxy'; cases hxy'
    have hlt := (List.getElem?_eq_some_iff.mp hv).1
    rw [List.drop_eq_getElem_cons hlt]
    have hvv : vs[i] = .str y t := (List.getElem?_eq_some_iff.mp hv).2
    rw [hvv, List.filter_cons_of_pos (by simp only [keepP]; rw [hin]; rfl)]
  | succ n ih =>
    intro i j vs xs v hn hij hs hv hy hk
    have hlt' := (List.getElem?_eq_some_iff.mp hv).1
    have hlt : i < vs.length := by omega
    rw [List.drop_eq_getElem_cons hlt]
    obtain ⟨z, t, hz, e⟩ := strs_get hs (List.getElem?_eq_getElem hlt)
    have hin := hk i z (Nat.le_refl _) (by omega) hz
    rw [e, List.filter_cons_of_neg (by simp only [keepP]; rw [hin]; decide)]
    exact ih (by omega) (by omega) hs hv hy fun k z h1 h2 h3 => hk k z (by omega) h2 h3
theorem keep_end {ys : List Str} {vs : List Value} {xs : List Str} (hs : Strs vs xs) : ∀ {n i : Nat}, vs.length - i = n → (∀ k z, i ≤ k → xs[k]? = some z → ys.any (· == z) = true) → (vs.drop i).filter (keepP ys) = [] := by
  intro n
  induction n with
  | zero => intro i hn _; rw [List.drop_eq_nil_of_le (by omega)]; rfl
  | succ n ih =>
    intro i hn hk
    have hlt : i < vs.length := by omega
    rw [List.drop_eq_getElem_cons hlt]
    obtain ⟨z, t, hz, e⟩ := strs_get hs (List.getElem?_eq_getElem hlt)
    rw [e, List.filter_cons_of_neg (by simp only [keepP]; rw [hk i z (Nat.le_refl _) hz]; decide)]
    exact ih (by omega) fun k z h1 h2 => hk k z (by omega) h2

abbrev ledFF (S it x d bm sk : Addr) (oS oI : Obj) : List (Addr × Obj) := [(S, oS), (it, oI), (x, instFF d bm it), (d, dictOf [] 0), (bm, boundIn sk)]
section
variable {w : World} {loose : List Str} {mean : ExcName → Option Value} {mg mb : Str → Option Value}
  {dp un : Nat} {gd : Option (List Code)} {cn : Str} {cs : Scope} {a : Addr} {ccd : Value} {cl : List (Str × Addr)} {outer : List Env} {A₀ : Around} {base h₀ : Heap} {L : Addr} {m : Str → Option Value}
  {S it x d bm fl sk : Addr} {vs ws : List Value} {xs ys : List Str}

theorem ff_pyNext {s : Shared} {Q : Option Value → Shared → Prop} {E : Value → Shared → Prop} {oS : Obj} {i : Nat}
  (B : Below A₀ base outer h₀) (F : Fr h₀ L s.heap m) (X : (hd.heap_39 w.params).In h₀) (T : Top topProg loose mean mg mb h₀) (hk : cs.kind = .function) (hdp : dp + 2 < recursionLimit) (hun : un + 32 < cLine)
  (N : News h₀ L s.heap (ledFF S it x d bm sk oS (itObj fl i)))
  (l1 : @LT.lt Nat _ bm d) (l2 : @LT.lt Nat _ d x) (l3 : @LT.lt Nat _ x it) (l4 : @LT.lt Nat _ it S)
  (hl : h₀.IsList fl vs.toArray) (hs : Strs vs xs) (hl2 : h₀.IsList sk ws.toArray) (hs2 : vs ≠ [] → Strs ws ys)
  (hret : ∀ j v h' tk', i ≤ j → vs[j]? = some v → (∃ y, xs[j]? = some y ∧ ys.any (· == y) = false) → (∀ k z, i ≤ k → k < j → xs[k]? = some z → ys.any (· == z) = true) → Fr h₀ L h' m → News h₀ L h' (ledFF S it x d bm sk oS (itObj fl (j + 1))) → Q (some v) { s with heap := h', toks := tk' })
  (hexc : (∀ k z, i ≤ k → xs[k]? = some z → ys.any (· == z) = true) → ∀ e h' tk' n, RaisedN base (envX cn cs L a ccd cl :: outer) e (.type "StopIteration") (ledFF S it x d bm sk oS (itEnd n)) h' → h₀.UpToSlots h' → Q none { s with heap := h', toks := tk' }) :
  wpAny (model Challenge.rw_ij0195_02.row.prog w) (ktrTop dp un gd cn cs L a ccd cl outer) (pyNext (.ref x)) Q E s := by
  w_strict (
    (revert X; k_fill; intro X)
    (have I : InstAt s.heap x (instFF d bm it) 89 (some (dictOf [] 0)) := InstAt.of_news N (.tail _ (.tail _ (.head _))) (.tail _ (.tail _ (.tail _ (.head _)))))
    refine owit_next (K := hd.heap_39 w.params) (C := 89) (f := 85) F X I ?hs ?hf ?_
    (case hs => k_is)
    (case hf => k_is)
    skip)
  refine ff_next B F X T hk hdp hun N l1 l2 l3 l4 hl hs hl2 hs2 (fun j v h' tk' => hret j v h' tk') fun hall e h' tk' n R U => ?_
  obtain ⟨Bh, a0, hB, hlN, hfl⟩ := id R
  obtain ⟨ob, hob, hobc⟩ := hfl.there
  have hT : ({ s with heap := h', toks := tk' } : Shared).TypeIs (.ref e) "StopIteration" := (show ∃ o, h'.get? e = some o ∧ o.cls = .type "StopIteration" from ⟨ob, hob, hobc⟩)
  unfold OwitStop
  refine wpAny_isInstance hT (b := true) isSubtype_stop ?_
  rw [if_pos rfl]
  exact hexc hall e h' tk' n R U

theorem ff_extend {R : Result → Shared → Prop}
  (B : Below A₀ base outer h₀) (X : (hd.heap_39 w.params).In h₀) (T : Top topProg loose mean mg mb h₀) (hk : cs.kind = .function) (hdp : dp + 2 < recursionLimit) (hun : un + 33 < cLine)
  (l1 : @LT.lt Nat _ bm d) (l2 : @LT.lt Nat _ d x) (l3 : @LT.lt Nat _ x it) (l4 : @LT.lt Nat _ it S)
  (hl : h₀.IsList fl vs.toArray) (hs : Strs vs xs) (hl2 : h₀.IsList sk ws.toArray) (hs2 : vs ≠ [] → Strs ws ys) (hsz : vs.length ≤ 100000) :
  ∀ (n i : Nat) (s : Shared) (acc : Array Value) (c : Nat), vs.length - i ≤ n → acc.size ≤ i → Fr h₀ L s.heap m → News h₀ L s.heap (ledFF S it x d bm sk (lstObj acc c) (itObj fl i)) →
  (∀ c' e h' tk' k, RaisedN base (envX cn cs L a ccd cl :: outer) e (.type "StopIteration") (ledFF S it x d bm sk (lstObj (acc ++ ((vs.drop i).filter (keepP ys)).toArray) c') (itEnd k)) h' → h₀.UpToSlots h' → R (.ok (.ret .none)) { s with heap := h', toks := tk' }) →
  codeAny (model Challenge.rw_ij0195_02.row.prog w) (ktrTop dp un gd cn cs L a ccd cl outer) (.builtin "list.extend.loop" ⟨[.ref S, .ref x, .none], []⟩) R s := by
  intro n
  induction n with
  | zero =>
    intro i s acc c hn hacc F N hR
    refine codeAny_builtin PySem.F.entry_extend_loop ?_
    rw [Around.under_plainId PySem.F.plain_extend_loop _]
    show wpAny _ (ktrTop dp (un + 1) gd cn cs L a ccd cl outer) (pyNext (.ref x) >>= _) _ _ s
    refine wpAny_bind (ff_pyNext B F X T hk hdp (by omega) N l1 l2 l3 l4 hl hs hl2 hs2 (fun j v h' tk' h1 h2 h3 h4 F' N' => ?_) fun hall e h' tk' k RN U => ?_)
    · have := (List.getElem?_eq_some_iff.mp h2).1
      omega
    · refine wpAny_pure ?_
      refine hR c e h' tk' k ?_ U
      rw [keep_end hs rfl hall]
      simpa using RN
  | succ n ih =>
    intro i s acc c hn hacc F N hR
    refine codeAny_builtin PySem.F.entry_extend_loop ?_
    rw [Around.under_plainId PySem.F.plain_extend_loop _]
    show wpAny _ (ktrTop dp (un + 1) gd cn cs L a ccd cl outer) (pyNext (.ref x) >>= _) _ _ s
    refine wpAny_bind (ff_pyNext B F X T hk hdp (by omega) N l1 l2 l3 l4 hl hs hl2 hs2 (fun j v h' tk' h1 h2 h3 h4 F' N' => ?_) fun hall e h' tk' k RN U => ?_)
    · have hj := (List.getElem?_eq_some_iff.mp h2).1
      have e1 := keep_next rfl h1 hs h2 h3 h4
      have hS := (N' (S, lstObj acc c) (.head _)).1
      show wpAny _ _ (Builtin.List.listUpdate (.ref S) (·.push v) >>= _) _ _ _
      refine wpAny_bind ?_
      show wpAny _ _ (updateSeq S (·.push v)) _ _ _
      refine wpAny_updateSeq (hz := by rw [sizeLine_eq]; omega) (_hz' := by rw [sizeLine_eq, Array.size_push]; omega) hS rfl ?_
      have ⟨U1, U2⟩ := news_upd (pre := []) (f := Obj.mapSeq (·.push v)) (o' := lstObj (acc.push v) (c + 1)) F' N' (fun _ h => nomatch h) (fun p hp => by
        rcases List.mem_cons.mp hp with rfl | hp
        · exact Nat.ne_of_lt l4
        · rcases List.mem_cons.mp hp with rfl | hp
          · exact Nat.ne_of_lt (Nat.lt_trans l3 l4)
          · rcases List.mem_cons.mp hp with rfl | hp
            · exact Nat.ne_of_lt (Nat.lt_trans l2 (Nat.lt_trans l3 l4))
            · have := List.mem_singleton.mp hp; subst this
              exact Nat.ne_of_lt (Nat.lt_trans l1 (Nat.lt_trans l2 (Nat.lt_trans l3 l4)))) (by simp [lstObj, Obj.mapSeq]) rfl
      refine wpAny_pure ⟨plainId_quiet PySem.F.plain_extend_loop _, ?_⟩
      refine ih (j + 1) _ (acc.push v) (c + 1) (by omega) (by rw [Array.size_push]; omega) U1 U2 fun c' e h'' tk'' k RN U => ?_
      refine hR c' e h'' tk'' k ?_ U
      rw [e1]
      simpa using RN
    · refine wpAny_pure ?_
      refine hR c e h' tk' k ?_ U
      rw [keep_end hs rfl hall]
      simpa using RN
end
end Mine
end
section
open PySem PySem.W PyProof.Rows PySem.Calls
set_option maxRecDepth 100000
set_option maxHeartbeats 0
namespace Mine
section
variable {w : World} {loose : List Str} {mean : ExcName → Option Value} {mg mb : Str → Option Value}
  {dp un : Nat} {gd : Option (List Code)} {cn : Str} {cs : Scope} {a : Addr} {ccd : Value} {cl : List (Str × Addr)} {outer : List Env} {A₀ : Around} {base h₀ : Heap} {L : Addr} {m : Str → Option Value}
  {S it x d bm fl sk : Addr} {vs ws : List Value} {xs ys : List Str}
local macro_rules | `(tactic| k_room) => `(tactic| ktr_room)
theorem ff_iter {s : Shared} {Q E : Value → Shared → Prop} {news : List (Addr × Obj)}
  (B : Below A₀ base outer h₀) (F : Fr h₀ L s.heap m) (X : (hd.heap_39 w.params).In h₀) (T : Top topProg loose mean mg mb h₀) (hk : cs.kind = .function) (hdp : dp + 2 < recursionLimit) (hun : un + 32 < cLine)
  (N : News h₀ L s.heap news)
  (hret : ∀ h' tk', Fr h₀ L h' m → News h₀ L h' news → Q (.ref x) { s with heap := h', toks := tk' }) :
  wpAny (model Challenge.rw_ij0195_02.row.prog w) (ktrTop dp un gd cn cs L a ccd cl outer) (call (.ref 78) [.ref x]) Q E s := by
  w_strict (
    (revert X; k_fill; intro X)
    refine wpAny_call ?_
    cell_enter
    k_steps
    exact hret _ _ (by assumption) (by assumption))

theorem ledS_upd {h : Heap} {acc acc' : Array Value} {c c' : Nat} {oI : Obj} {f : Array Value → Array Value} (F : Fr h₀ L h m) (N : News h₀ L h (ledFF S it x d bm sk (lstObj acc c) oI))
  (l1 : @LT.lt Nat _ bm d) (l2 : @LT.lt Nat _ d x) (l3 : @LT.lt Nat _ x it) (l4 : @LT.lt Nat _ it S) (e : Obj.mapSeq f (lstObj acc c) = lstObj acc' c') :
  Fr h₀ L (h.update S (Obj.mapSeq f)) m ∧ News h₀ L (h.update S (Obj.mapSeq f)) (ledFF S it x d bm sk (lstObj acc' c') oI) :=
  news_upd (pre := []) (f := Obj.mapSeq f) (o' := lstObj acc' c') F N (fun _ h => nomatch h) (fun p hp => by
    rcases List.mem_cons.mp hp with rfl | hp
    · exact Nat.ne_of_lt l4
    · rcases List.mem_cons.mp hp with rfl | hp
      · exact Nat.ne_of_lt (Nat.lt_trans l3 l4)
      · rcases List.mem_cons.mp hp with rfl | hp
        · exact Nat.ne_of_lt (Nat.lt_trans l2 (Nat.lt_trans l3 l4))
        · have := List.mem_singleton.mp hp; subst this
          exact Nat.ne_of_lt (Nat.lt_trans l1 (Nat.lt_trans l2 (Nat.lt_trans l3 l4)))) e rfl

theorem ff_list {s : Shared} {Q E : Value → Shared → Prop}
  (B : Below A₀ base outer h₀) (F : Fr h₀ L s.heap m) (X : (hd.heap_39 w.params).In h₀) (T : Top topProg loose mean mg mb h₀) (hk : cs.kind = .function) (hdp : dp + 2 < recursionLimit) (hun : un + 40 < cLine)
  (N : News h₀ L s.heap [(it, itObj fl 0), (x, instFF d bm it), (d, dictOf [] 0), (bm, boundIn sk)])
  (l1 : @LT.lt Nat _ bm d) (l2 : @LT.lt Nat _ d x) (l3 : @LT.lt Nat _ x it)
  (hl : h₀.IsList fl vs.toArray) (hs : Strs vs xs) (hl2 : h₀.IsList sk ws.toArray) (hs2 : vs ≠ [] → Strs ws ys) (hsz : vs.length ≤ 100000)
  (hQ : ∀ S c e h' tk' k, RaisedN base (envX cn cs L a ccd cl :: outer) e (.type "StopIteration") (ledFF S it x d bm sk (lstObj (vs.filter (keepP ys)).toArray c) (itEnd k)) h' → h₀.UpToSlots h' → h₀.get? S = none → Q (.ref S) { s with heap := h', toks := tk' }) :
  wpAny (model Challenge.rw_ij0195_02.row.prog w) (ktrTop dp un gd cn cs L a ccd cl outer) (call (.type "list") [.ref x]) Q E s := by
  have hf : ∃ K, K = hd.heap_39 w.params ∧ findIn K (.ref 89) "__iter__" = some (some (.ref 78)) ∧ isFn K (.ref 78) = true ∧ findIn K (.ref 89) "__next__" = some (some (.ref 85)) ∧ findIn K (.ref 89) "__len__" = some none ∧ findIn K (.ref 89) "__length_hint__" = some none := by
    w_strict (
      (revert X; k_fill; intro X)
      refine ⟨hd.heap_39 w.params, rfl, ?_, ?_, ?_, ?_, ?_⟩
      (all_goals k_is))
  obtain ⟨K, rfl, f1, f2, f3, f4, f5⟩ := hf
  refine callType_codes (Q₁ := fun obj s₁ => obj = .ref s.heap.objs.size ∧ s₁ = { s with heap := s.heap.push { cls := .type "list", data := .seq #[] } }) PySem.F.called_list (PySem.F.typeCall_list_1 _) PySem.F.entry_list_init (code_list_new _ ⟨rfl, rfl⟩) fun obj s₁ h₁ => ?_
  obtain ⟨rfl, rfl⟩ := h₁
  have hS : (s.heap.push { cls := .type "list", data := .seq #[] }).get? s.heap.objs.size = some (lstObj #[] 0) := Heap.get?_push_size _ rfl
  have l4 : @LT.lt Nat _ it s.heap.objs.size := Heap.lt_size (N _ (.head _)).1
  have F1 : Fr h₀ L (s.heap.push { cls := .type "list", data := .seq #[] }) m := F.push _
  have N1 : News h₀ L (s.heap.push { cls := .type "list", data := .seq #[] }) (ledFF s.heap.objs.size it x d bm sk (lstObj #[] 0) (itObj fl 0)) := News.push F N _ rfl
  refine ⟨⟨_, hS, rfl⟩, PySem.F.args_list_init_2 _ _, ?_⟩
  generalize s.heap.objs.size = S at *
  show wpAny _ (ktrTop dp (un + 2) gd cn cs L a ccd cl outer) (do let old ← Builtin.List.listItems (.ref S); Builtin.List.listUpdate (.ref S) (fun _ => #[]); letGo old.toList.reverse; Builtin.List.listExtendWith (.ref S) (.ref x) .none) _ _ _
  refine wpAny_bind ?_
  unfold Builtin.List.listItems
  refine wpAny_bind (wpAny_seqItems hS rfl (wpAny_pure ?_))
  show wpAny _ _ (updateSeq S (fun _ => #[]) >>= fun _ => letGo (#[] : Array Value).toList.reverse >>= fun _ => Builtin.List.listExtendWith (.ref S) (.ref x) .none) _ _ _
  refine wpAny_bind (wpAny_updateSeq hS rfl ?_)
  have ⟨F2, N2⟩ := ledS_upd (f := fun _ => #[]) (acc' := #[]) (c' := 0) F1 N1 l1 l2 l3 l4 (by simp [lstObj, Obj.mapSeq])
  refine wpAny_bind (wpAny_letGo ?_)
  have I2 : InstAt _ x (instFF d bm it) 89 (some (dictOf [] 0)) := InstAt.of_news N2 (.tail _ (.tail _ (.head _))) (.tail _ (.tail _ (.tail _ (.head _))))
  unfold Builtin.List.listExtendWith
  refine wpAny_bind (I2.type.here ?_)
  have hSx : S ≠ x := Nat.ne_of_gt (Nat.lt_trans l3 l4)
  have h1 : Builtin.List.listSameRef (.ref S) (.ref x) = false := by simp [Builtin.List.listSameRef, hSx]
  have h2 : (Value.ref 89 == Value.type "list") = false := by rfl
  have h3 : (Value.ref 89 == Value.type "tuple") = false := by rfl
  simp only [h1, h2, h3, Bool.or_false, Bool.false_eq_true, if_false]
  refine wpAny_bind (owit_iter F2 X I2 f1 f2 (ff_iter B F2 X T hk hdp (by omega) N2 fun h3 tk3 F3 N3 => ?_))
  have I3 : InstAt h3 x (instFF d bm it) 89 (some (dictOf [] 0)) := InstAt.of_news N3 (.tail _ (.tail _ (.head _))) (.tail _ (.tail _ (.tail _ (.head _))))
  refine owit_it F3 X I3 f3 ?_
  refine wpAny_bind (wpAny_holding ?_)
  unfold Builtin.List.listLengthHint
  refine wpAny_bind (wpAny_bind (I3.type.here ((looks_findIn (X.keeps F3.keep) f4).here ?_)))
  show wpAny _ _ (specialOf (Value.ref x) (Str.ofString "__length_hint__") >>= _) _ _ _
  refine wpAny_bind (wpAny_bind (I3.type.here ((looks_findIn (X.keeps F3.keep) f5).here ?_)))
  refine wpAny_pure ?_
  show wpAny _ _ (rule "list.extend.makes-room" >>= fun _ => Builtin.List.listTouch (.ref S) >>= fun _ => again (.builtin "list.extend.loop" ⟨[.ref S, .ref x, .none], []⟩)) _ _ _
  refine wpAny_bind (wpAny_rule ?_)
  refine wpAny_bind ?_
  show wpAny _ _ (updateSeq S (·.push .none) >>= fun _ => updateSeq S (·.pop)) _ _ _
  refine wpAny_bind (wpAny_updateSeq (N3 _ (.head _)).1 rfl ?_)
  have ⟨F4, N4⟩ := ledS_upd (f := (·.push Value.none)) (acc' := #[Value.none]) (c' := 1) F3 N3 l1 l2 l3 l4 (by simp [lstObj, Obj.mapSeq])
  refine wpAny_updateSeq (N4 _ (.head _)).1 rfl ?_
  have ⟨F5, N5⟩ := ledS_upd (f := (·.pop)) (acc' := #[]) (c' := 2) F4 N4 l1 l2 l3 l4 (by simp [lstObj, Obj.mapSeq])
  refine wpAny_pure ⟨plainId_quiet PySem.F.plain_extend_loop _, ?_⟩
  refine ff_extend (un := un + 1) B X T hk hdp (by omega) l1 l2 l3 l4 hl hs hl2 hs2 hsz vs.length 0 _ #[] 2 (by omega) (Nat.le_refl _) F5 N5 fun c' e h' tk' k RN U => ?_
  refine ⟨rfl, hQ S c' e h' tk' k ?_ U (N1 _ (.head _)).2.2⟩
  simpa using RN
end
end Mine
end
section
open PySem PySem.W PyProof.Rows
set_option maxRecDepth 100000
set_option maxHeartbeats 0
namespace Mine
/-- everything stands as it stood, but the frames' own objects up to their slots -/
def Up (fr : List Addr) (h h' : Heap) : Prop := ∀ b o, h.get? b = some o → (b ∉ fr → h'.get? b = some o) ∧ (b ∈ fr → ∃ sl, h'.get? b = some { o with slots := sl })
theorem up_of {A : Around} {base h h' : Heap} {env : Env} {outer l : List Env} {e : Addr} {cls : Value} {news : List (Addr × Obj)} (B : Below A base (env :: outer) h)
    (R : RaisedN (hideAll h ((env :: outer).filterMap (·.frame))) l e cls news h') (U : h.UpToSlots h') : Up ((env :: outer).filterMap (·.frame)) h h' := by
  obtain ⟨Bh, a0, hB, hlN, hfl⟩ := R
  intro b o ho
  refine ⟨fun hn => hfl.1 _ _ (hB _ _ (hideAll_get _ ho hn)), fun hm => ?_⟩
  obtain ⟨o', ho', hd⟩ := (B.frames.mem hm).2
  rw [ho] at ho'; cases ho'
  exact U b o ho hd
theorem raisedN_get {base h' : Heap} {l : List Env} {e : Addr} {cls : Value} {news : List (Addr × Obj)} (R : RaisedN base l e cls news h') {p : Addr × Obj} (hp : p ∈ news) : h'.get? p.1 = some p.2 := by
  obtain ⟨Bh, a0, hB, hlN, hfl⟩ := R
  exact hfl.1 _ _ (hlN p hp).1
local macro_rules | `(tactic| walk_at "getAttr ref") => `(tactic| (k_here; (with_reducible show wpAny _ _ (getAttr (Value.ref _) (PySem.Str.ofString "__contains__") _) _ _ _); refine' getattr_containsN ?k1 ?k2 ?k3 ?_; (case k1 => k_asm); (case k2 => k_asm); (case k3 => assumption); k_whole; intro x' h' F' N' l1; (try k_lt l1); (try k_sweep)))
local macro_rules | `(tactic| walk_at "call builtin:iter") => `(tactic| (k_here; (with_reducible show wpAny _ _ (call (Value.builtin "iter") [Value.ref _]) _ _ _); refine' iter_listN ?k1 ?k2 ?k3 ?_; (case k1 => k_asm); (case k2 => k_asm); (case k3 => is_list); k_whole; intro x' h' F' N' l1; (try k_lt l1); (try k_sweep)))
local macro_rules | `(tactic| is_list) => `(tactic| exact Fr.lst (by assumption) (Fr.lst (by assumption) (by assumption)))
local macro_rules | `(tactic| k_room) => `(tactic| ktr_room)
theorem filter_c {w : World} {loose : List Str} {mean : ExcName → Option Value} {mg mb : Str → Option Value}
  {dp un : Nat} {gd : Option (List Code)} {cn : Str} {cs : Scope} {a : Addr} {ccd : Value} {cl : List (Str × Addr)} {outer : List Env} {A₀ : Around} {base h₀ : Heap} {L : Addr} {m : Str → Option Value} {s : Shared} {Q E : Value → Shared → Prop}
  {fl sk : Addr} {vs ws : List Value} {xs ys : List Str}
  (B : Below A₀ base outer h₀) (F : Fr h₀ L s.heap m) (X : (hd.heap_39 w.params).In h₀) (T : Top topProg loose mean mg mb h₀) (hk : cs.kind = .function) (hdp : dp + 8 < recursionLimit) (hun : un + 64 < cLine)
  (hl : s.heap.IsList fl vs.toArray) (hs : Strs vs xs) (hl2 : s.heap.PlainList sk ws.toArray) (hs2 : vs ≠ [] → Strs ws ys) (hsz : vs.length ≤ 100000)
  (hret : ∀ (D : Addr) (c : Nat) (h' : Heap) (tk' : Nat), Up (L :: outer.filterMap (·.frame)) s.heap h' → h'.get? D = some (lstObj (vs.filter (keepP ys)).toArray c) → s.heap.get? D = none → Q (.ref D) { s with heap := h', toks := tk' }) :
  wpAny (model Challenge.rw_ij0195_02.row.prog w) (ktrTop dp un gd cn cs L a ccd cl outer) (call (.ref 100) [.ref fl, .ref sk]) Q E s := by
  w_strict (
    (revert X; k_fill; intro X)
    refine wpAny_call ?_
    refine' callP ?k1 ?k2 ?k3 ?k5 ?kA ?kF ?kK ?k6 ?k7 ?k8 ?k9 ?kB ?_ ?c2 ?c3 ?c4 ?c5
    (case kA => exact rfl); (case kF => exact rfl); (case kK => assumption); (case k1 => k_asm); (case k2 => k_asm); (case k3 => k_asm); (case k5 => k_asm); (case k6 => k_is); (case k7 => k_is); (case k8 => ktr_room); (case k9 => exact BindsTo.of_eq rfl); (case c5 => decide); (case kB => exact locs rfl); (case c2 => exact rfl); (case c3 => exact rfl); (case c4 => exact rfl)
    k_whole
    intro L' h' F' N' B'' X' T'
    have hl2' := hl2.isList
    have B' := below_max B''
    have Up' := fun (l : List Env) (e : Addr) (cls : Value) (news : List (Addr × Obj)) (h2 : Heap) (R : RaisedN _ l e cls news h2) (U : s.heap.UpToSlots h2) => up_of B'' R U
    clear B''
    (try dsimp only)
    (try k_lift B')
    (try k_fold)
    k_steps
    with_unfolding_all refine' ff_list ?j1 ?j2 ?j3 ?j4 ?j5 ?j6 ?j7 ?j8 ?l1 ?l2 ?l3 ?j9 ?j10 ?j11 ?j12 ?j13 ?_
    (case j1 => exact B')
    (case j2 => k_asm)
    (case j3 => k_asm)
    (case j4 => k_asm)
    (case j5 => exact rfl)
    (case j6 => ktr_room)
    (case j7 => ktr_units)
    (case j8 => k_asm)
    (case l1 => omega)
    (case l2 => omega)
    (case l3 => omega)
    (case j9 => exact hl)
    (case j10 => exact hs)
    (case j11 => exact hl2')
    (case j12 => exact hs2)
    (case j13 => exact hsz)
    intro S c e h3 tk3 k RN U hf
    have hS := raisedN_get RN (.head _)
    have hU := Up' _ _ _ _ _ RN U
    k_steps
    exact hret S c h3 tk3 hU hS hf)
end Mine
end
section
open PySem PySem.W PyProof.Rows PySem.Calls
set_option maxRecDepth 100000
set_option maxHeartbeats 0
namespace Mine
/-- where a comprehension takes its items from -/
inductive Src (prog : Program) (w : World) (A : Around) (xv : Value) (s₁ : Shared) (n : Nat) (P : Nat → Value → Prop) : Prop
  | mk (fp : List Addr) (St : Nat → Heap → Prop) (o : Obj) (q1 : (∀ (Q : Value → Shared → Prop) (E : Value → Shared → Prop), Q (.ref s₁.heap.objs.size) { s₁ with heap := s₁.heap.push o } → wpAny (model prog w) A (pyIter xv) Q E s₁)) (q2 : Walks prog w A s₁.heap.objs.size fp [s₁.heap.objs.size] n P St) (q3 : St 0 (s₁.heap.push o)) (q4 : ∀ b ∈ fp, b < s₁.heap.objs.size + 1) : Src prog w A xv s₁ n P
/-- what is to be shown where a comprehension's source is at hand: the test and the element, each turn; what stands behind it -/
inductive CompAt (prog : Program) (w : World) (A : Around) (env : Env) (scope : Scope) (cl : List (Str × Addr)) (x : Str) (ifs : List Expr) (elt : Expr) (Q : Value → Shared → Prop) (xv : Value) (s₁ : Shared) : Prop
  | mk (n : Nat) (P : Nat → Value → Prop) (h₀ : Heap) (L : Addr) (m : Str → Option Value) (news : List (Addr × Obj)) (p : Value → Bool) (FF : Value → Value → Prop) (q1 : Src prog w A xv s₁ n P) (q2 : n ≤ sizeLine) (q3 : Fr h₀ L s₁.heap m) (q4 : News h₀ L s₁.heap news) (q5 : (∀ (i : Nat) (v : Value) (C : Addr) (oC : Obj) (m₂ : Str → Option Value) (s₃ : Shared) (E' : Value → Shared → Prop), P i v → LCg.NsObj oC m₂ → m₂ x = some v → Fr h₀ L s₃.heap m → News h₀ L s₃.heap ((C, oC) :: news) → (∀ q ∈ news, q.1 < C) →
      wpAny (model prog w) A (forIn ifs true fun c r => if r = true then do let ok ← isTrue c (compEnvC scope cl C env) (eval c (compEnvC scope cl C env)); pure (ForInStep.yield ok) else pure (ForInStep.yield r)) (fun ok s₄ => ok = p v ∧ Keeps s₃ s₄) E' s₃)) (q6 : (∀ (i : Nat) (v : Value) (C : Addr) (oC : Obj) (m₂ : Str → Option Value) (s₃ : Shared) (E' : Value → Shared → Prop), P i v → p v = true → LCg.NsObj oC m₂ → m₂ x = some v → Fr h₀ L s₃.heap m → News h₀ L s₃.heap ((C, oC) :: news) → (∀ q ∈ news, q.1 < C) →
      wpAny (model prog w) A (eval elt (compEnvC scope cl C env)) (fun y s₄ => FF v y ∧ Keeps s₃ s₄) E' s₃)) (q7 : (∀ (D : Addr) (h' : Heap) (tk : Nat) (vs ys : List Value), vs.length = n → (∀ (j : Nat) (v : Value), vs[j]? = some v → P j v) → Fr h₀ L h' m → News h₀ L h' news → h'.PlainList D (List.toArray ys) → s₁.heap.get? D = none → s₁.heap.StaysIn h' → Paired FF (vs.filter p) ys → Q (.ref D) { s₁ with heap := h', toks := tk })) : CompAt prog w A env scope cl x ifs elt Q xv s₁
theorem items_eq {vs vs' : List Value} (hlen : vs'.length = vs.length) (hP : ∀ (j : Nat) (v : Value), vs'[j]? = some v → vs[j]? = some v) : vs' = vs := by
  refine List.ext_getElem? fun j => ?_
  rcases hj : vs'[j]? with _ | v
  · have hle := List.getElem?_eq_none_iff.mp hj
    rw [List.getElem?_eq_none (by omega)]
  · rw [hP j v hj]
section
variable {prog : Program} {w : World} {A : Around} {E : Value → Shared → Prop} {env : Env} {s : Shared}
theorem src_list {l : Addr} {vs : List Value} (hh : A.handled = none) (hl : s.heap.IsList l vs.toArray) : Src prog w A (.ref l) s vs.length (fun i v => vs[i]? = some v) := by
  have hlt : l < s.heap.objs.size := by obtain ⟨o, ho, _⟩ := hl; exact Heap.lt_size ho
  have W := Walks.list (prog := prog) (w := w) (A := A) hh s.heap.objs.size l (Nat.ne_of_lt hlt) vs.toArray
  have e1 : vs.toArray.size = vs.length := by simp
  have e2 : (fun (i : Nat) (v : Value) => vs.toArray[i]? = some v) = fun i v => vs[i]? = some v := by funext i v; simp
  rw [e1, e2] at W
  refine ⟨_, _, { cls := .type "list_iterator", data := .fields #[.ref l, .int 0 0] }, fun Q E h => wpAny_pyIter_list hl h, W, ⟨⟨_, Heap.get?_push_size _ rfl, rfl, rfl⟩, hl.at fun o e => Heap.get?_push_of_some _ e⟩, fun b hb => ?_⟩
  rcases List.mem_cons.mp hb with rfl | hb
  · exact Nat.lt_succ_self _
  · rw [List.mem_singleton.mp hb]; exact Nat.lt_succ_of_lt hlt
theorem walks_strong {I : Addr} {fp wr : List Addr} {n : Nat} {P : Nat → Value → Prop} {St : Nat → Heap → Prop} (W : Walks prog w A I fp wr n P St) : Walks prog w A I fp wr n (fun i v => i < n ∧ P i v) St where
  sub := W.sub
  frame := W.frame
  item := fun i s Q E hi st hQ => W.item i s Q E hi st fun v h' tk hP => hQ v h' tk ⟨hi, hP⟩
  done := W.done
  self := W.self
theorem src_range {r : Addr} {a b c : Int} {t u v : Tok} {n : Nat} (hh : A.handled = none) (hr : IsRange s.heap r a b c t u v) (hsmall : Builtin.Range.small a b c = true) (hn : Builtin.Range.rangeSize a b c = n) :
    Src prog w A (.ref r) s n (fun i v => i < n ∧ ∃ t, v = .int (a + i * c) t) := by
  have W := walks_strong (Walks.range (prog := prog) (w := w) (A := A) hh s.heap.objs.size a c n)
  refine ⟨_, _, { cls := .type "range_iterator", data := .fields #[rawInt a, rawInt (Builtin.Range.rangeSize a b c), rawInt c] }, fun Q E h => wpAny_pyIter_range hr hsmall h, W, ?_, fun b hb => ?_⟩
  · show IsRangeIter _ _ _ _ _; rw [hn]; simpa using Heap.get?_push_size _ rfl
  · rw [List.mem_singleton.mp hb]; exact Nat.lt_succ_self _
theorem comp_at {elt iter : Expr} {x : Str} {px : Pos} {ifs : List Expr} {scope : Scope} {cl : List (Str × Addr)} {pos : Pos} {Q : Value → Shared → Prop}
    (hclos : closureFor scope env = pure cl) (hcell : ∀ y ∈ scope.names, y.2 ≠ .cell) (hkind : scope.kind = .function)
    (hnames : ∀ y ∈ scope.names, y.2 = .local → scope.names.lookup y.1 = some .local) (hx : scope.names.lookup x = some .local)
    (h : wpAny (model prog w) A (eval iter env) (CompAt prog w A env scope cl x ifs elt Q) E s)
    (hs : ∀ x, foldedSetIterable iter env x = pure x := by intro _; rfl) :
    wpAny (model prog w) A (eval (.ListComp elt [⟨.Name x px, iter, ifs, 0⟩] scope pos) env) Q E s := by
  rw [eval_ListComp]
  refine wpAny_comprehension_free (use := none) rfl hs hclos hkind hnames (wpAny_mono h (fun xv s₁ h₁ => ?_) fun _ _ e => e)
  obtain ⟨n, P, h₀, L, m, news, p, FF, ⟨fp, St, oI, hiter, W, hst, hfp⟩, hsz, F, N, ht, he, hd⟩ := h₁
  refine hiter _ _ ?_
  generalize hH : s₁.heap.push oI = H1 at hst ⊢
  have old : ∀ b o, s₁.heap.get? b = some o → H1.get? b = some o := fun b o e => hH ▸ Heap.get?_push_of_some _ e
  have hsz1 : H1.objs.size = s₁.heap.objs.size + 1 := by rw [← hH, Heap.size_push]
  have turnFacts : ∀ (C : Addr) (s₃ : Shared) (m₃ : Str → Option Value), H1.objs.size ≤ C → s₃.heap.Ns C m₃ → (∀ b o, b ∉ [s₁.heap.objs.size] → H1.get? b = some o → s₃.heap.get? b = some o) →
      ∃ oC, LCg.NsObj oC m₃ ∧ Fr h₀ L s₃.heap m ∧ News h₀ L s₃.heap ((C, oC) :: news) ∧ (∀ q ∈ news, q.1 < C) := by
    intro C s₃ m₃ hC hn hk
    obtain ⟨oC, hoC, hns⟩ := LCg.ns_obj hn
    have k3 : ∀ b o, s₁.heap.get? b = some o → s₃.heap.get? b = some o := fun b o e => hk b o (by
      intro hm
      rw [List.mem_singleton.mp hm] at e
      exact absurd (Heap.lt_size e) (Nat.lt_irrefl _)) (old b o e)
    have hCn : s₁.heap.objs.size ≤ C := by rw [hsz1] at hC; exact Nat.le_of_succ_le hC
    have hnone : s₁.heap.get? C = none := Heap.get?_none_of_le hCn
    refine ⟨oC, hns, F.keeps k3, fun q hq => ?_, fun q hq => Nat.lt_of_lt_of_le (Heap.lt_size (N q hq).1) hCn⟩
    rcases List.mem_cons.mp hq with rfl | hq
    · refine ⟨hoC, fun e => ?_, ?_⟩
      · have := F.ns.lt
        rw [← e] at this
        exact absurd (Nat.lt_of_lt_of_le this hCn) (Nat.lt_irrefl _)
      · cases q : h₀.get? C with
        | none => rfl
        | some o => have := F.keep _ _ q; rw [hnone] at this; cases this
    · exact ⟨k3 _ _ (N q hq).1, (N q hq).2⟩
  refine comp_block_walkC (RR := fun acc C => compPost (model prog w) A E none Q acc C) (s₂ := { s₁ with heap := H1 }) W hsz p FF hcell hkind hx hst (fun b hb => ?_) ⟨?_, ?_⟩ ?_
  · show b < H1.objs.size; rw [hsz1]; exact hfp b hb
  · intro C i v s₃ m₃ E' hC hP hn hm hk _
    obtain ⟨oC, h1, h2, h3, h4⟩ := turnFacts C s₃ m₃ hC hn hk
    exact ht i v C oC m₃ s₃ E' hP h1 hm h2 h3 h4
  · intro C i v s₃ m₃ E' hC hP hp hn hm hk _
    obtain ⟨oC, h1, h2, h3, h4⟩ := turnFacts C s₃ m₃ hC hn hk
    exact he i v C oC m₃ s₃ E' hP hp h1 hm h2 h3 h4
  · intro D C h' tk m' ys vs' hD hC hDC hn hlD hplD hlen hP hF hk
    refine ⟨m', hn, fun h'' hs'' => ?_⟩
    have k1 : ∀ b o, s₁.heap.get? b = some o → h''.get? b = some o := fun b o e => hs''.extBut b o (by
      rintro rfl
      have := old _ _ e
      rw [hC] at this; cases this) (hk b o (by
      intro hm
      rw [List.mem_singleton.mp hm] at e
      exact absurd (Heap.lt_size e) (Nat.lt_irrefl _)) (old b o e))
    have hD1 : s₁.heap.get? D = none := by
      cases q : s₁.heap.get? D with
      | none => rfl
      | some o => have := old _ _ q; rw [hD] at this; cases this
    exact hd D h'' tk vs' ys.toList hlen hP (F.keeps k1) (fun q hq => ⟨k1 _ _ (N q hq).1, (N q hq).2⟩) (by simpa using hplD.extBut hs''.extBut hDC) hD1 k1 hF
end
end Mine
namespace Mine
section
variable {prog : Program} {w : World} {A : Around} {E : Value → Shared → Prop} {s : Shared} {h₀ h₁ : Heap} {L : Addr} {m : Str → Option Value} {news : List (Addr × Obj)} {x : Str} {t : Tok} {value slice : PySem.Expr} {Q : Value → Shared → Prop}
theorem kept_elt : KeptH (fun h' => (Fr h₀ L h' m ∧ News h₀ L h' news) ∧ InElt h₁ h') := fun h ob ⟨⟨F, N⟩, k⟩ => ⟨⟨F.push _, fun p hp => ⟨Heap.get?_push_of_some _ (N p hp).1, (N p hp).2⟩⟩, fun b o e => Heap.get?_push_of_some _ (k b o e)⟩
theorem after_elt {P : Heap → Nat → Prop} (hF : Fr h₀ L s.heap m) (hN : News h₀ L s.heap news) (hE : InElt h₁ s.heap) (h : ∀ h' tk', Fr h₀ L h' m → News h₀ L h' news → InElt h₁ h' → P h' tk') : ∀ h' tk', s.heap.StaysIn h' → P h' tk' :=
  fun h' tk' k => h h' tk' (hF.keeps k) (fun p hp => ⟨k _ _ (hN p hp).1, (hN p hp).2⟩) fun b o e => k b o (hE b o e)
theorem after_st {P : Heap → Nat → Prop} (hF : Fr h₀ L s.heap m) (hN : News h₀ L s.heap news) (h : ∀ h' tk', Fr h₀ L h' m → News h₀ L h' news → P h' tk') : ∀ h' tk', s.heap.StaysIn h' → P h' tk' :=
  fun h' tk' k => h h' tk' (hF.keeps k) (fun p hp => ⟨k _ _ (hN p hp).1, (hN p hp).2⟩)
end
end Mine
end
section
open PySem PySem.W PyProof.Rows PySem.Calls
set_option maxRecDepth 100000
set_option maxHeartbeats 0
namespace Mine
abbrev E2 (elt : Expr) (x : Str) (px : Pos) (i1 : Expr) (y : Str) (py : Pos) (i2 : Expr) (ifs2 : List Expr) (scope : Scope) (pos : Pos) : Expr := .ListComp elt [⟨.Name x px, i1, [], 0⟩, ⟨.Name y py, i2, ifs2, 0⟩] scope pos
section
variable {prog : Program} {w : World} {A : Around} {E : Value → Shared → Prop} {s : Shared} {elt i1 i2 : Expr} {x y : Str} {px py : Pos} {ifs2 : List Expr} {scope : Scope} {pos : Pos} {cenv : Env} {R : Result → Shared → Prop}
theorem turn_outer (it acc : Value) (env : Env) :
    compTurn (E2 elt x px i1 y py i2 ifs2 scope pos) 0 it acc env = (do
      standAt i1.pos
      match ← pyNext it with
      | none => pure (.done .next)
      | some v =>
        letOwnedTupleGo (.Name x px) it v
        assign (.Name x px) env v
        let z ← eval i2 env
        standAt i2.pos
        let z ← foldedSetIterable i2 env z
        let q ← holding [z] (pyIter z)
        let _ ← runOwn (.compStart (E2 elt x px i1 y py i2 ifs2 scope pos) 1 q acc env) env
        again (.compLoop (E2 elt x px i1 y py i2 ifs2 scope pos) 0 it acc env)) := by
  unfold compTurn
  simp
  rfl
theorem turn_inner (it acc : Value) (env : Env) :
    compTurn (E2 elt x px i1 y py i2 ifs2 scope pos) 1 it acc env = (do
      standAt i2.pos
      match ← pyNext it with
      | none => pure (.done .next)
      | some v =>
        letOwnedTupleGo (.Name y py) it v
        assign (.Name y py) env v
        let mut ok := true
        for c in ifs2 do
          if ok then ok ← isTrue c env (eval c env)
        if ok then
          (do let _ ← call (.builtin "list.append") [acc, ← eval elt env])
        again (.compLoop (E2 elt x px i1 y py i2 ifs2 scope pos) 1 it acc env)) := by rfl
theorem start_inner {it acc : Value} (h0 : codeAny (model prog w) A (.compLoop (E2 elt x px i1 y py i2 ifs2 scope pos) 1 it acc cenv) R s)
    (h : wpAny (model prog w) A (pyIter it) (fun it' s' => codeAny (model prog w) A (.compLoop (E2 elt x px i1 y py i2 ifs2 scope pos) 1 it' acc cenv) R s') (notedBy (model prog w) A cenv fun x s' => R (.error x) s') s) :
    codeAny (model prog w) A (.compStart (E2 elt x px i1 y py i2 ifs2 scope pos) 1 it acc cenv) R s := by
  refine codeAny_of_tree ?_
  show wpAny _ _ ((compStart (E2 elt x px i1 y py i2 ifs2 scope pos) 1 it acc cenv).onRaise (fun x => do noteFrame x cenv; standAt theWindowsPlace)) _ _ s
  refine wpAny_notedAt ?_
  unfold compStart
  show wpAny _ _ (PySem.ask >>= _) _ _ s
  refine wpAny_bind (wpAny_askSetting (wpAny_ite ?_))
  split
  · first
      | exact wpAny_bind (wpAny_pure (wpAny_pure (And.intro rfl h0)))
      | exact wpAny_pure (And.intro rfl h0)
  · first
      | exact wpAny_bind (wpAny_rule (wpAny_bind (wpAny_standAt (wpAny_bind (wpAny_mono h (fun it' s' h' => wpAny_pure (And.intro rfl h')) fun _ _ x => x)))))
      | (refine wpAny_bind (wpAny_rule ?_); show wpAny _ _ (standAt i2.pos >>= _) _ _ s; exact wpAny_bind (wpAny_standAt (wpAny_bind (wpAny_mono h (fun it' s' h' => wpAny_pure (And.intro rfl h')) fun _ _ x => x))))
theorem start_outer {it acc : Value} (h0 : codeAny (model prog w) A (.compLoop (E2 elt x px i1 y py i2 ifs2 scope pos) 0 it acc cenv) R s)
    (h : wpAny (model prog w) A (pyIter it) (fun it' s' => codeAny (model prog w) A (.compLoop (E2 elt x px i1 y py i2 ifs2 scope pos) 0 it' acc cenv) R s') (notedBy (model prog w) A cenv fun x s' => R (.error x) s') s) :
    codeAny (model prog w) A (.compStart (E2 elt x px i1 y py i2 ifs2 scope pos) 0 it acc cenv) R s := codeAny_compStart_list h0 h

/-- the inner clause's loop -/
theorem inner_loop {I D : Addr} {fp : List Addr} {n : Nat} {P : Nat → Value → Prop} {St : Nat → Heap → Prop} {m : Str → Option Value} {ys₀ : List Value} (W : Walks prog w A I fp [I] n P St) (p : Value → Bool) (F : Value → Value → Prop)
    (hy : cenv.kindOf y = some .local) (hp : (cenv.scope.kind == .class || (cenv.scope.kind == .module && cenv.locals != cenv.globals)) = false)
    (hDC : D ≠ cenv.locals) (hDf : D ∉ fp) (hCf : cenv.locals ∉ fp) (hst : St 0 s.heap) (hacc : s.heap.PlainList D ys₀.toArray) (hn : s.heap.Ns cenv.locals m)
    (hsz : ys₀.length + n ≤ sizeLine)
    (htests : ∀ i v s₂ m₂ E', P i v → s₂.heap.Ns cenv.locals m₂ → m₂ y = some v → (∀ z, z ≠ y → m₂ z = m z) → (∀ b o, b ≠ cenv.locals → b ≠ I → b ≠ D → s.heap.get? b = some o → s₂.heap.get? b = some o) →
      wpAny (model prog w) A (forIn ifs2 true fun c r => if r = true then do let ok ← isTrue c cenv (eval c cenv); pure (ForInStep.yield ok) else pure (ForInStep.yield r)) (fun ok s₃ => ok = p v ∧ Keeps s₂ s₃) E' s₂)
    (helt : ∀ i v s₂ m₂ E', P i v → p v = true → s₂.heap.Ns cenv.locals m₂ → m₂ y = some v → (∀ z, z ≠ y → m₂ z = m z) → (∀ b o, b ≠ cenv.locals → b ≠ I → b ≠ D → s.heap.get? b = some o → s₂.heap.get? b = some o) →
      wpAny (model prog w) A (eval elt cenv) (fun u s₃ => F v u ∧ Keeps s₂ s₃) E' s₂)
    (hR : ∀ h' tk m' ws (vs : List Value), h'.Ns cenv.locals m' → (∀ z, z ≠ y → m' z = m z) → h'.PlainList D (ys₀ ++ ws).toArray → vs.length = n → (∀ (j : Nat) v, vs[j]? = some v → P j v) → Paired F (vs.filter p) ws →
      (∀ b o, b ≠ cenv.locals → b ≠ I → b ≠ D → s.heap.get? b = some o → h'.get? b = some o) → R (.ok .next) { s with heap := h', toks := tk }) :
    codeAny (model prog w) A (.compLoop (E2 elt x px i1 y py i2 ifs2 scope pos) 1 (.ref I) (.ref D) cenv) R s := by
  have hIf : I ∈ fp := W.sub I (List.mem_singleton.mpr rfl)
  have hCI : cenv.locals ≠ I := fun e => hCf (e ▸ hIf)
  have hDI : D ≠ I := fun e => hDf (e ▸ hIf)
  refine codeAny_loop rfl (fun k s' => ∃ (h' : Heap) (tk : Nat) (m' : Str → Option Value) (ws vs : List Value), s' = { s with heap := h', toks := tk } ∧ St vs.length h' ∧ h'.PlainList D (ys₀ ++ ws).toArray ∧ h'.Ns cenv.locals m' ∧ (∀ z, z ≠ y → m' z = m z) ∧
      (∀ (j : Nat) v, vs[j]? = some v → P j v) ∧ Paired F (vs.filter p) ws ∧ vs.length ≤ n ∧ k = n + 1 - vs.length ∧ (∀ b o, b ≠ cenv.locals → b ≠ I → b ≠ D → s.heap.get? b = some o → h'.get? b = some o)) ?_ (n + 1)
    ⟨s.heap, s.toks, m, [], [], rfl, hst, by simpa using hacc, hn, fun _ _ => rfl, by simp, .nil, Nat.zero_le _, rfl, fun _ _ _ _ _ e => e⟩
  rintro k s' ⟨H, tk, m', ws, vs, rfl, hst', hacc', hn', hm', hP, hF, hi, rfl, hk⟩
  show wpAny _ A ((compTurn (E2 elt x px i1 y py i2 ifs2 scope pos) 1 (.ref I) (.ref D) cenv).onRaise (fun x => do noteFrame x cenv; theTreesLotGoes x)) _ _ _
  refine wpAny_noted ?_
  rw [turn_inner]
  refine wpAny_bind (wpAny_standAt (wpAny_bind ?_))
  by_cases hlt : vs.length < n
  · refine W.item vs.length _ _ _ hlt hst' fun v h₁ tk₁ hPv hst₁ hk₁ => ?_
    refine wpAny_bind (wpAny_of_eq (a := ()) (by rfl) (wpAny_bind ?_))
    have kI : ∀ b o, b ≠ I → H.get? b = some o → h₁.get? b = some o := fun b o hb e => hk₁ b o (fun hm => hb (List.mem_singleton.mp hm)) e
    refine wpAny_assign_Name (wpAny_storeName_local hy (hn'.at' fun o e => kI _ o hCI e) (fun h₂ hn₂ hs₂ => ?_) hp)
    have up₂ : ∀ b o, b ≠ cenv.locals → b ≠ I → H.get? b = some o → h₂.get? b = some o := fun b o hbC hbI e => hs₂.extBut b o hbC (kI b o hbI e)
    have hst₂ : St (vs.length + 1) h₂ := W.frame _ _ _ hst₁ fun b hb o e => hs₂.extBut b o (fun h => hCf (h ▸ hb)) e
    have hm₂ : ∀ z, z ≠ y → (fun z => if z = y then some v else m' z) z = m z := fun z hz => by simp only [if_neg hz]; exact hm' z hz
    refine wpAny_bind (wpAny_mono (htests vs.length v _ _ _ hPv hn₂ (by simp) hm₂ (fun b o hbC hbI hbD e => up₂ b o hbC hbI (hk b o hbC hbI hbD e))) (fun ok s₃ h₃ => ?_) fun _ _ e => e)
    obtain ⟨rfl, h₃, tk₃, rfl, hk₃⟩ := h₃
    have hst₃ : St (vs.length + 1) h₃ := W.frame _ _ _ hst₂ fun b _ o e => hk₃ b o e
    have hacc₃ : h₃.PlainList D (ys₀ ++ ws).toArray := hacc'.at fun o e => hk₃ _ o (up₂ D o hDC hDI e)
    have hn₃ := hn₂.keeps hk₃
    have hP' : ∀ (j : Nat) u, (vs ++ [v])[j]? = some u → P j u := fun j u hj => by
      rcases Nat.lt_trichotomy j vs.length with h | h | h
      · exact hP j u (by rwa [List.getElem?_append_left h] at hj)
      · subst h; simp at hj; subst hj; exact hPv
      · have hnone : (vs ++ [v])[j]? = none := List.getElem?_eq_none (by rw [List.length_append, List.length_singleton]; omega)
        rw [hnone] at hj; cases hj
    have hl1 : (vs ++ [v]).length = vs.length + 1 := by simp
    cases hpv : p v with
    | false =>
      simp only [Bool.false_eq_true, if_false]
      refine wpAny_pure ⟨rfl, n + 1 - (vs.length + 1), by omega, h₃, tk₃, _, ws, vs ++ [v], rfl, by rw [hl1]; exact hst₃, hacc₃, hn₃, hm₂, hP', ?_, by rw [hl1]; exact hlt, by rw [hl1], fun b o hbC hbI hbD e => hk₃ b o (up₂ b o hbC hbI (hk b o hbC hbI hbD e))⟩
      rw [List.filter_append]; simpa [hpv] using hF
    | true =>
      simp only [if_true]
      refine wpAny_bind (wpAny_bind (wpAny_mono (helt vs.length v _ _ _ hPv hpv hn₃ (by simp) hm₂ (fun b o hbC hbI hbD e => hk₃ b o (up₂ b o hbC hbI (hk b o hbC hbI hbD e)))) (fun u s₄ h₄ => ?_) fun _ _ e => e))
      obtain ⟨hFu, h₄, tk₄, rfl, hk₄⟩ := h₄
      have hlw : ws.length ≤ vs.length := by
        have e1 := hF.length
        have e2 : (vs.filter p).length ≤ vs.length := List.length_filter_le _ _
        omega
      refine wpAny_bind (wpAny_list_append_plain (hsz := by rw [List.size_toArray, List.length_append]; omega) (hacc₃.at fun o e => hk₄ _ o e) fun h₅ hl₅ hs₅ => ?_)
      refine wpAny_pure (wpAny_pure ⟨rfl, n + 1 - (vs.length + 1), by omega, h₅, tk₄, _, ws ++ [u], vs ++ [v], rfl, ?_, ?_, (hn₃.keeps hk₄).sameBut hs₅ (Ne.symm hDC), hm₂, hP', ?_, by rw [hl1]; exact hlt, by rw [hl1],
        fun b o hbC hbI hbD e => hs₅.extBut b o hbD (hk₄ b o (hk₃ b o (up₂ b o hbC hbI (hk b o hbC hbI hbD e))))⟩)
      · rw [hl1]; exact W.frame _ _ h₅ hst₃ fun b hb o e => hs₅.extBut b o (fun h => hDf (h ▸ hb)) (hk₄ b o e)
      · simpa using hl₅
      · rw [List.filter_append]; simpa [hpv] using Paired.snoc hF hFu
  · have hin : vs.length = n := by omega
    refine W.done _ _ _ (hin ▸ hst') fun h₁ tk₁ hk₁ => ?_
    have kI : ∀ b o, b ≠ I → H.get? b = some o → h₁.get? b = some o := fun b o hb e => hk₁ b o (fun hm => hb (List.mem_singleton.mp hm)) e
    exact wpAny_pure (hR h₁ tk₁ m' ws vs (hn'.at' fun o e => kI _ o hCI e) hm' (hacc'.at fun o e => kI _ o hDI e) hin hP hF fun b o hbC hbI hbD e => kI b o hbI (hk b o hbC hbI hbD e))
end

/-- the inner clause's source: what it stands on is its own iterator or stood apart -/
inductive SrcIn (prog : Program) (w : World) (A : Around) (ok : Addr → Prop) (xv : Value) (s₁ : Shared) (n : Nat) (P : Nat → Value → Prop) : Prop
  | mk (fp : List Addr) (St : Nat → Heap → Prop) (o : Obj) (q1 : (∀ (Q : Value → Shared → Prop) (E : Value → Shared → Prop), Q (.ref s₁.heap.objs.size) { s₁ with heap := s₁.heap.push o } → wpAny (model prog w) A (pyIter xv) Q E s₁)) (q2 : Walks prog w A s₁.heap.objs.size fp [s₁.heap.objs.size] n P St) (q3 : St 0 (s₁.heap.push o)) (q4 : ∀ b ∈ fp, b = s₁.heap.objs.size ∨ ok b) : SrcIn prog w A ok xv s₁ n P
section
variable {prog : Program} {w : World} {A : Around} {E : Value → Shared → Prop} {s : Shared} {ok : Addr → Prop}
theorem srcIn_list {l : Addr} {vs : List Value} (hh : A.handled = none) (hl : s.heap.IsList l vs.toArray) (hok : ok l) : SrcIn prog w A ok (.ref l) s vs.length (fun i v => vs[i]? = some v) := by
  have hlt : l < s.heap.objs.size := by obtain ⟨o, ho, _⟩ := hl; exact Heap.lt_size ho
  have W := Walks.list (prog := prog) (w := w) (A := A) hh s.heap.objs.size l (Nat.ne_of_lt hlt) vs.toArray
  have e1 : vs.toArray.size = vs.length := by simp
  have e2 : (fun (i : Nat) (v : Value) => vs.toArray[i]? = some v) = fun i v => vs[i]? = some v := by funext i v; simp
  rw [e1, e2] at W
  refine ⟨_, _, { cls := .type "list_iterator", data := .fields #[.ref l, .int 0 0] }, fun Q E h => wpAny_pyIter_list hl h, W, ⟨⟨_, Heap.get?_push_size _ rfl, rfl, rfl⟩, hl.at fun o e => Heap.get?_push_of_some _ e⟩, fun b hb => ?_⟩
  rcases List.mem_cons.mp hb with rfl | hb
  · exact .inl rfl
  · rw [List.mem_singleton.mp hb]; exact .inr hok
end
/-- what is to be shown where the inner source is at hand -/
inductive InnerAt (prog : Program) (w : World) (A : Around) (cenvOf : Addr → Env) (x y : Str) (ifs2 : List Expr) (elt : Expr) (h₀ : Heap) (L : Addr) (m : Str → Option Value) (news : List (Addr × Obj)) (FF : Value → List Value → Prop) (v : Value) (C : Addr) (s₃ : Shared) (xv2 : Value) (s₄ : Shared) : Prop
  | mk (q1 : Keeps s₃ s₄) (n2 : Nat) (P2 : Nat → Value → Prop) (p2 : Value → Bool) (F2 : Value → Value → Prop) (q2 : SrcIn prog w A (fun b => h₀.get? b ≠ none ∨ (∃ q ∈ news, b = q.1) ∨ s₃.heap.get? b = none) xv2 s₄ n2 P2) (q3 : n2 ≤ 1000) (q4 : (∀ (i : Nat) (u : Value) (oC : Obj) (m₂ : Str → Option Value) (s₅ : Shared) (E' : Value → Shared → Prop), P2 i u → LCg.NsObj oC m₂ → m₂ x = some v → m₂ y = some u → Fr h₀ L s₅.heap m → News h₀ L s₅.heap ((C, oC) :: news) →
      wpAny (model prog w) A (forIn ifs2 true fun c r => if r = true then do let ok ← isTrue c (cenvOf C) (eval c (cenvOf C)); pure (ForInStep.yield ok) else pure (ForInStep.yield r)) (fun ok s₆ => ok = p2 u ∧ Keeps s₅ s₆) E' s₅)) (q5 : (∀ (i : Nat) (u : Value) (oC : Obj) (m₂ : Str → Option Value) (s₅ : Shared) (E' : Value → Shared → Prop), P2 i u → p2 u = true → LCg.NsObj oC m₂ → m₂ x = some v → m₂ y = some u → Fr h₀ L s₅.heap m → News h₀ L s₅.heap ((C, oC) :: news) →
      wpAny (model prog w) A (eval elt (cenvOf C)) (fun z s₆ => F2 u z ∧ Keeps s₅ s₆) E' s₅)) (q6 : (∀ (vs2 ws : List Value), vs2.length = n2 → (∀ (j : Nat) (u : Value), vs2[j]? = some u → P2 j u) → Paired F2 (vs2.filter p2) ws → FF v ws)) : InnerAt prog w A cenvOf x y ifs2 elt h₀ L m news FF v C s₃ xv2 s₄
theorem paired_lens {FF : Value → List Value → Prop} {N : Nat} : ∀ {vs : List Value} {wss : List (List Value)}, Paired FF vs wss → (∀ ws ∈ wss, ws.length ≤ N) → wss.flatten.length ≤ vs.length * N
  | _, _, .nil, _ => by simp
  | _, _, .cons (l₁ := l₁) (l₂ := l₂) (b := b) _ h, hl => by
    have ih := paired_lens h fun ws hw => hl ws (.tail _ hw)
    have h1 := hl _ (.head _)
    rw [List.flatten_cons, List.length_append, List.length_cons, Nat.succ_mul]
    omega
section
variable {prog : Program} {w : World} {A : Around} {E : Value → Shared → Prop} {s : Shared} {elt i1 i2 : Expr} {x y : Str} {px py : Pos} {ifs2 : List Expr} {scope : Scope} {pos : Pos} {cenvOf : Addr → Env} {R : Result → Shared → Prop}
theorem outer_loop {I D C : Addr} {fp : List Addr} {n : Nat} {P : Nat → Value → Prop} {St : Nat → Heap → Prop} {mc : Str → Option Value} {h₀ : Heap} {L : Addr} {m : Str → Option Value} {news : List (Addr × Obj)} {FF : Value → List Value → Prop}
    (W : Walks prog w A I fp [I] n P St) (hcenv : (cenvOf C).locals = C) (hx : (cenvOf C).kindOf x = some .local) (hy : (cenvOf C).kindOf y = some .local) (hxy : x ≠ y) (hp : ((cenvOf C).scope.kind == .class || ((cenvOf C).scope.kind == .module && (cenvOf C).locals != (cenvOf C).globals)) = false)
    (hs2 : ∀ z, foldedSetIterable i2 (cenvOf C) z = pure z)
    (hDC : D ≠ C) (hDf : D ∉ fp) (hCf : C ∉ fp) (hst : St 0 s.heap) (hacc : s.heap.PlainList D #[]) (hn : s.heap.Ns C mc) (hsz : n ≤ 1000)
    (F : Fr h₀ L s.heap m) (N : News h₀ L s.heap news) (hC0 : h₀.get? C = none) (hCL : C ≠ L) (hCn : ∀ q ∈ news, q.1 < C) (hD0 : h₀.get? D = none) (hDL : D ≠ L) (hDn : ∀ q ∈ news, q.1 ≠ D) (hI0 : h₀.get? I = none) (hIL : I ≠ L) (hIn : ∀ q ∈ news, q.1 ≠ I)
    (inner : ∀ (i : Nat) (v : Value) (C : Addr) (oC : Obj) (m₂ : Str → Option Value) (s₃ : Shared) (E' : Value → Shared → Prop), P i v → LCg.NsObj oC m₂ → m₂ x = some v → Fr h₀ L s₃.heap m → News h₀ L s₃.heap ((C, oC) :: news) → (∀ q ∈ news, q.1 < C) →
      wpAny (model prog w) A (eval i2 (cenvOf C)) (InnerAt prog w A cenvOf x y ifs2 elt h₀ L m news FF v C s₃) E' s₃)
    (hR : ∀ h' tk m' (vs : List Value) (wss : List (List Value)), h'.Ns C m' → h'.PlainList D wss.flatten.toArray → vs.length = n → (∀ (j : Nat) v, vs[j]? = some v → P j v) → Paired FF vs wss →
      (∀ b o, b ≠ C → b ≠ I → b ≠ D → s.heap.get? b = some o → h'.get? b = some o) → R (.ok .next) { s with heap := h', toks := tk }) :
    codeAny (model prog w) A (.compLoop (E2 elt x px i1 y py i2 ifs2 scope pos) 0 (.ref I) (.ref D) (cenvOf C)) R s := by
  have hIf : I ∈ fp := W.sub I (List.mem_singleton.mpr rfl)
  have hCI : C ≠ I := fun e => hCf (e ▸ hIf)
  have hDI : D ≠ I := fun e => hDf (e ▸ hIf)
  have frOf : ∀ h : Heap, (∀ b o, b ≠ C → b ≠ I → b ≠ D → s.heap.get? b = some o → h.get? b = some o) → Fr h₀ L h m ∧ News h₀ L h news := by
    intro h k
    obtain ⟨oL, es, ep, hL, r⟩ := F.ns
    refine ⟨⟨⟨oL, es, ep, k L oL (Ne.symm hCL) (Ne.symm hIL) (Ne.symm hDL) hL, r⟩, fun b o e => k b o ?_ ?_ ?_ (F.keep b o e), F.above⟩, fun q hq => ⟨k _ _ (Nat.ne_of_lt (hCn q hq)) (hIn q hq) (hDn q hq) (N q hq).1, (N q hq).2⟩⟩
    · rintro rfl; rw [hC0] at e; cases e
    · rintro rfl; rw [hI0] at e; cases e
    · rintro rfl; rw [hD0] at e; cases e
  have newsC : ∀ (h : Heap) (oC : Obj), News h₀ L h news → h.get? C = some oC → News h₀ L h ((C, oC) :: news) := fun h oC Nn e q hq => by
    rcases List.mem_cons.mp hq with rfl | hq
    · exact ⟨e, hCL, hC0⟩
    · exact Nn q hq
  refine codeAny_loop rfl (fun k s' => ∃ (h' : Heap) (tk : Nat) (m' : Str → Option Value) (wss : List (List Value)) (vs : List Value), s' = { s with heap := h', toks := tk } ∧ St vs.length h' ∧ h'.PlainList D wss.flatten.toArray ∧ h'.Ns C m' ∧
      (∀ (j : Nat) v, vs[j]? = some v → P j v) ∧ Paired FF vs wss ∧ (∀ ws ∈ wss, ws.length ≤ 1000) ∧ vs.length ≤ n ∧ k = n + 1 - vs.length ∧ (∀ b o, b ≠ C → b ≠ I → b ≠ D → s.heap.get? b = some o → h'.get? b = some o)) ?_ (n + 1)
    ⟨s.heap, s.toks, mc, [], [], rfl, hst, by simpa using hacc, hn, by simp, .nil, by simp, Nat.zero_le _, rfl, fun _ _ _ _ _ e => e⟩
  rintro k s' ⟨H, tk, m', wss, vs, rfl, hst', hacc', hn', hP, hF, hW, hi, rfl, hk⟩
  show wpAny _ A ((compTurn (E2 elt x px i1 y py i2 ifs2 scope pos) 0 (.ref I) (.ref D) (cenvOf C)).onRaise (fun x => do noteFrame x (cenvOf C); theTreesLotGoes x)) _ _ _
  refine wpAny_noted ?_
  rw [turn_outer]
  refine wpAny_bind (wpAny_standAt (wpAny_bind ?_))
  by_cases hlt : vs.length < n
  · refine W.item vs.length _ _ _ hlt hst' fun v h₁ tk₁ hPv hst₁ hk₁ => ?_
    refine wpAny_bind (wpAny_of_eq (a := ()) (by rfl) (wpAny_bind ?_))
    have kI : ∀ b o, b ≠ I → H.get? b = some o → h₁.get? b = some o := fun b o hb e => hk₁ b o (fun hm => hb (List.mem_singleton.mp hm)) e
    refine wpAny_assign_Name (wpAny_storeName_local (m := m') hx (hcenv.symm ▸ hn'.at' fun o e => kI _ o hCI e) (fun h₂ hn₂ hs₂ => ?_) hp)
    rw [hcenv] at hn₂ hs₂
    have up₂ : ∀ b o, b ≠ C → b ≠ I → H.get? b = some o → h₂.get? b = some o := fun b o hbC hbI e => hs₂.extBut b o hbC (kI b o hbI e)
    have hst₂ : St (vs.length + 1) h₂ := W.frame _ _ _ hst₁ fun b hb o e => hs₂.extBut b o (fun h => hCf (h ▸ hb)) e
    have k2 : ∀ b o, b ≠ C → b ≠ I → b ≠ D → s.heap.get? b = some o → h₂.get? b = some o := fun b o hbC hbI hbD e => up₂ b o hbC hbI (hk b o hbC hbI hbD e)
    obtain ⟨oC, hoC, hns⟩ := LCg.ns_obj hn₂
    obtain ⟨F2, N2⟩ := frOf h₂ k2
    refine wpAny_bind (wpAny_mono (inner vs.length v C oC _ { s with heap := h₂, toks := _ } _ hPv hns (by simp) F2 (newsC h₂ oC N2 hoC) hCn) (fun xv2 s₄ hin => ?_) fun _ _ e => e)
    obtain ⟨⟨h₄, tk₄, rfl, hk₄⟩, n2, P2, p2, F2', ⟨fp2, St2, o2, hiter, W2, hst2, hfp2⟩, hn2, ht2, he2, hfin2⟩ := hin
    refine wpAny_bind (wpAny_standAt (wpAny_bind ?_))
    rw [hs2]
    refine wpAny_pure (wpAny_bind (wpAny_holding (hiter _ _ ?_)))
    have hDlt : D < h₄.objs.size := by
      obtain ⟨c, e⟩ := hacc'
      exact Heap.lt_size (hk₄ _ _ (up₂ D _ hDC hDI e))
    have hClt : C < h₄.objs.size := Heap.lt_size (hk₄ _ _ hoC)
    have hD2 : D ∉ fp2 := fun hm => by
      rcases hfp2 D hm with h | h | ⟨q, hq, h⟩ | h
      · exact Nat.ne_of_lt hDlt h
      · exact h hD0
      · exact hDn q hq h.symm
      · obtain ⟨c, e⟩ := hacc'
        have := up₂ D _ hDC hDI e
        rw [show h₂.get? D = none from h] at this; cases this
    have hC2 : C ∉ fp2 := fun hm => by
      rcases hfp2 C hm with h | h | ⟨q, hq, h⟩ | h
      · exact Nat.ne_of_lt hClt h
      · exact h hC0
      · exact Nat.ne_of_lt (hCn q hq) h.symm
      · rw [show h₂.get? C = none from h] at hoC; cases hoC
    have k4 : ∀ b o, h₂.get? b = some o → (h₄.push o2).get? b = some o := fun b o e => Heap.get?_push_of_some _ (hk₄ b o e)
    have hI2 : ∀ b o, h₂.get? b = some o → b ≠ h₄.objs.size := fun b o e => Nat.ne_of_lt (Heap.lt_size (hk₄ b o e))
    have hacc4 : (h₄.push o2).PlainList D wss.flatten.toArray := hacc'.at fun o e => k4 _ o (up₂ D o hDC hDI e)
    have hn4 := hn₂.keeps k4
    have hflat : wss.flatten.length ≤ 1000000 := by
      have := paired_lens hF hW
      have h2 : vs.length * 1000 ≤ 1000 * 1000 := Nat.mul_le_mul_right _ (by omega)
      omega
    have key : ∀ R' : Result → Shared → Prop, (∀ (h6 : Heap) (tk6 : Nat) (m6 : Str → Option Value) (ws vs2 : List Value), h6.Ns C m6 → h6.PlainList D (wss.flatten ++ ws).toArray → vs2.length = n2 → (∀ (j : Nat) (u : Value), vs2[j]? = some u → P2 j u) → Paired F2' (vs2.filter p2) ws →
        (∀ b o, b ≠ C → b ≠ h₄.objs.size → b ≠ D → (h₄.push o2).get? b = some o → h6.get? b = some o) → R' (.ok .next) { s with heap := h6, toks := tk6 }) →
        codeAny (model prog w) A (.compLoop (E2 elt x px i1 y py i2 ifs2 scope pos) 1 (.ref h₄.objs.size) (.ref D) (cenvOf C)) R' { s with heap := h₄.push o2, toks := tk₄ } := by
      intro R' hfin
      refine inner_loop (s := { s with heap := h₄.push o2, toks := tk₄ }) (cenv := cenvOf C) W2 p2 F2' hy hp (by rw [hcenv]; exact hDC) hD2 (by rw [hcenv]; exact hC2) hst2 hacc4 (by rw [hcenv]; exact hn4) (by rw [sizeLine_eq]; omega) ?_ ?_ ?_
      · intro i u s₅ m₅ E' hPu hn5 hm5 hoth hk5
        rw [hcenv] at hn5 hk5
        obtain ⟨oC5, hoC5, hns5⟩ := LCg.ns_obj hn5
        obtain ⟨F5, N5⟩ := frOf s₅.heap fun b o hbC hbI hbD e => hk5 b o hbC (hI2 b o (k2 b o hbC hbI hbD e)) hbD (k4 b o (k2 b o hbC hbI hbD e))
        exact ht2 i u oC5 m₅ s₅ E' hPu hns5 (by rw [hoth x hxy]; simp) hm5 F5 (newsC _ _ N5 hoC5)
      · intro i u s₅ m₅ E' hPu hpu hn5 hm5 hoth hk5
        rw [hcenv] at hn5 hk5
        obtain ⟨oC5, hoC5, hns5⟩ := LCg.ns_obj hn5
        obtain ⟨F5, N5⟩ := frOf s₅.heap fun b o hbC hbI hbD e => hk5 b o hbC (hI2 b o (k2 b o hbC hbI hbD e)) hbD (k4 b o (k2 b o hbC hbI hbD e))
        exact he2 i u oC5 m₅ s₅ E' hPu hpu hns5 (by rw [hoth x hxy]; simp) hm5 F5 (newsC _ _ N5 hoC5)
      · intro h6 tk6 m6 ws vs2 hn6 _ hacc6 hlen2 hP2 hF2 hk6
        rw [hcenv] at hn6 hk6
        exact hfin h6 tk6 m6 ws vs2 hn6 hacc6 hlen2 hP2 hF2 hk6
    refine wpAny_bind (wpAny_runOwn ?_)
    show codeAny (model prog w) A _ _ _
    refine (fun fin => start_inner (key _ fin) (W2.self 0 _ _ _ hst2 (key _ fin))) ?_
    intro h6 tk6 m6 ws vs2 hn6 hacc6 hlen2 hP2 hF2 hk6
    have hPv' : ∀ (j : Nat) u, (vs ++ [v])[j]? = some u → P j u := fun j u hj => by
      rcases Nat.lt_trichotomy j vs.length with h | h | h
      · exact hP j u (by rwa [List.getElem?_append_left h] at hj)
      · subst h; simp at hj; subst hj; exact hPv
      · have hnone : (vs ++ [v])[j]? = none := List.getElem?_eq_none (by rw [List.length_append, List.length_singleton]; omega)
        rw [hnone] at hj; cases hj
    have hl1 : (vs ++ [v]).length = vs.length + 1 := by simp
    have hwl : ws.length ≤ 1000 := by
      have e1 := hF2.length
      have e2 : (vs2.filter p2).length ≤ vs2.length := List.length_filter_le _ _
      omega
    refine wpAny_pure ⟨rfl, n + 1 - (vs.length + 1), by omega, h6, tk6, m6, wss ++ [ws], vs ++ [v], rfl, ?_, ?_, hn6, hPv', Paired.snoc hF (hfin2 vs2 ws hlen2 hP2 hF2), ?_, by rw [hl1]; exact hlt, by rw [hl1], fun b o hbC hbI hbD e => ?_⟩
    · rw [hl1]
      exact W.frame _ _ h6 hst₂ fun b hb o e => hk6 b o (fun h => hCf (h ▸ hb)) (hI2 b o e) (fun h => hDf (h ▸ hb)) (k4 b o e)
    · simpa using hacc6
    · intro z hz
      rcases List.mem_append.mp hz with h | h
      · exact hW z h
      · rw [List.mem_singleton.mp h]; exact hwl
    · exact hk6 b o hbC (hI2 b o (k2 b o hbC hbI hbD e)) hbD (k4 b o (k2 b o hbC hbI hbD e))
  · have hin : vs.length = n := by omega
    refine W.done _ _ _ (hin ▸ hst') fun h₁ tk₁ hk₁ => ?_
    have kI : ∀ b o, b ≠ I → H.get? b = some o → h₁.get? b = some o := fun b o hb e => hk₁ b o (fun hm => hb (List.mem_singleton.mp hm)) e
    exact wpAny_pure (hR h₁ tk₁ m' vs wss (hn'.at' fun o e => kI _ o hCI e) (hacc'.at fun o e => kI _ o hDI e) hin hP hF fun b o hbC hbI hbD e => kI b o hbI (hk b o hbC hbI hbD e))
end

section
variable {prog : Program} {w : World} {A : Around} {E : Value → Shared → Prop} {env : Env} {s : Shared}
end
end Mine
end
section
open PySem PySem.W PyProof.Rows PySem.Calls
set_option maxRecDepth 100000
set_option maxHeartbeats 0
namespace Mine
abbrev cellObj (v : Option Value) : Obj := { cls := .type "cell", data := .cell v }
section
variable {M : Model} {A : Around} {E : Value → Shared → Prop} {s : Shared}
theorem newEnv_cell {scope : Scope} {globals : Addr} {cl : List (Str × Addr)} {qual : Str} {env : Env} {x : Str} {Q : Env → Shared → Prop} (hc : ∀ n, cellsFrom n scope.names cl = (x, n) :: cl) (hp : ∀ h, pushCells h scope.names = h.push (cellObj none))
    (h : Q { scope, locals := s.heap.objs.size, globals, cells := (x, s.heap.objs.size + 1) :: cl, qual, func := none, code := env.code, frame := env.frame, builtins := env.builtins } { s with heap := (s.heap.push { cls := .type "dict", data := .dict #[] }).push (cellObj none) }) :
    wpAny M A (newFunctionEnv scope globals cl [] qual none .none (some env)) Q E s := by
  simp only [newFunctionEnv, Option.isSome_some, if_true]
  refine wpAny_bind (wpAny_alloc ?_)
  refine wpAny_bind (wpAny_layCells _ (fun name kind cells => by cases hkc : kind == NameKind.cell <;> simp [hkc]) _ _ _ _ ?_)
  rw [hc, hp]
  refine wpAny_bind (wpAny_pure (wpAny_pure ?_))
  rw [Heap.size_push]
  exact h
end

section
variable {prog : Program} {w : World} {A : Around} {E : Value → Shared → Prop} {env : Env} {s : Shared}
/-- behind the loop: the list is stored under its name, then the block's own names go -/
theorem post_use {z : Str} {pz : Pos} {D C L : Addr} {h₀ h' : Heap} {m m' : Str → Option Value} {news : List (Addr × Obj)} {ys : Array Value} {tk : Nat} {Q : Flow → Shared → Prop}
    (hz : env.kindOf z = some .local) (hp : (env.scope.kind == .class || (env.scope.kind == .module && env.locals != env.globals)) = false) (hL : env.locals = L)
    (F : Fr h₀ L h' m) (N : News h₀ L h' news) (hn : h'.Ns C m') (hCL : C ≠ L) (hDL : D ≠ L) (hDC : D ≠ C) (hpl : h'.PlainList D ys) (hC0 : h₀.get? C = none) (hCn : ∀ q ∈ news, q.1 ≠ C)
    (k : ∀ h'' tk'', Fr h₀ L h'' (fun y => if y = z then some (.ref D) else m y) → News h₀ L h'' news → h''.PlainList D ys → (∀ b o, b ≠ L → b ≠ C → h'.get? b = some o → h''.get? b = some o) → Q .next { s with heap := h'', toks := tk'' }) :
    compPost (model prog w) A E (some (assign (.Name z pz) env)) (fun _ s' => Q .next s') (.ref D) C (.ok .next) { s with heap := h', toks := tk } := by
  show wpAny _ A (assign (.Name z pz) env (.ref D)) _ _ _
  refine wpAny_assign_Name (wpAny_storeName_local (m := m) hz (hL.symm ▸ F.ns) (fun h₂ hn₂ hs₂ => ?_) hp)
  rw [hL] at hn₂ hs₂
  refine ⟨m', hn.at' fun o e => hs₂.extBut _ o hCL e, fun h'' hs'' => ?_⟩
  have k2 : ∀ b o, b ≠ L → b ≠ C → h'.get? b = some o → h''.get? b = some o := fun b o h1 h2 e => hs''.extBut b o h2 (hs₂.extBut b o h1 e)
  refine k h'' _ ⟨hn₂.at' fun o e => hs''.extBut _ o (Ne.symm hCL) e, fun b o e => k2 b o ?_ ?_ (F.keep b o e), F.above⟩ (fun q hq => ⟨k2 _ _ (N q hq).2.1 (hCn q hq) (N q hq).1, (N q hq).2⟩) (hpl.at fun o e => k2 _ o hDL hDC e) k2
  · exact Nat.ne_of_lt (Nat.lt_of_lt_of_le (Heap.lt_size e) F.above)
  · rintro rfl; rw [hC0] at e; cases e
def UseEnd (Q : Flow → Shared → Prop) (z : Str) (h₀ : Heap) (L : Addr) (m : Str → Option Value) (news : List (Addr × Obj)) (s₁ : Shared) (Pr : List Value → Prop) : Prop :=
  ∀ (D : Addr) (h' : Heap) (tk : Nat) (ys : List Value), Pr ys → Fr h₀ L h' (fun y => if y = z then some (.ref D) else m y) → News h₀ L h' news → h'.PlainList D ys.toArray → s₁.heap.get? D = none → (∀ b o, b ≠ L → s₁.heap.get? b = some o → h'.get? b = some o) → Q .next { s₁ with heap := h', toks := tk }
/-- the turns of a comprehension of one clause -/
def CompTurns (prog : Program) (w : World) (A : Around) (env : Env) (scope : Scope) (cl : List (Str × Addr)) (x : Str) (ifs : List Expr) (elt : Expr) (h₀ : Heap) (L : Addr) (m : Str → Option Value) (news : List (Addr × Obj)) (P : Nat → Value → Prop) (p : Value → Bool) (FF : Value → Value → Prop) : Prop :=
    (∀ (i : Nat) (v : Value) (C : Addr) (oC : Obj) (m₂ : Str → Option Value) (s₃ : Shared) (E' : Value → Shared → Prop), P i v → LCg.NsObj oC m₂ → m₂ x = some v → Fr h₀ L s₃.heap m → News h₀ L s₃.heap ((C, oC) :: news) → (∀ q ∈ news, q.1 < C) →
      wpAny (model prog w) A (forIn ifs true fun c r => if r = true then do let ok ← isTrue c (compEnvC scope cl C env) (eval c (compEnvC scope cl C env)); pure (ForInStep.yield ok) else pure (ForInStep.yield r)) (fun ok s₄ => ok = p v ∧ Keeps s₃ s₄) E' s₃) ∧
    (∀ (i : Nat) (v : Value) (C : Addr) (oC : Obj) (m₂ : Str → Option Value) (s₃ : Shared) (E' : Value → Shared → Prop), P i v → p v = true → LCg.NsObj oC m₂ → m₂ x = some v → Fr h₀ L s₃.heap m → News h₀ L s₃.heap ((C, oC) :: news) → (∀ q ∈ news, q.1 < C) →
      wpAny (model prog w) A (eval elt (compEnvC scope cl C env)) (fun y s₄ => FF v y ∧ Keeps s₃ s₄) E' s₃)
/-- what is to be shown of a comprehension that a statement stores -/
inductive UseAt (prog : Program) (w : World) (A : Around) (env : Env) (scope : Scope) (cl : List (Str × Addr)) (x : Str) (ifs : List Expr) (elt : Expr) (z : Str) (Q : Flow → Shared → Prop) (xv : Value) (s₁ : Shared) : Prop
  | mk (n : Nat) (P : Nat → Value → Prop) (h₀ : Heap) (L : Addr) (m : Str → Option Value) (news : List (Addr × Obj)) (p : Value → Bool) (FF : Value → Value → Prop) (q1 : Src prog w A xv s₁ n P) (q2 : n ≤ sizeLine) (q3 : env.locals = L) (q4 : Fr h₀ L s₁.heap m) (q5 : News h₀ L s₁.heap news) (q6 : CompTurns prog w A env scope cl x ifs elt h₀ L m news P p FF) (q7 : UseEnd Q z h₀ L m news s₁ (fun ys => ∃ vs : List Value, vs.length = n ∧ (∀ (j : Nat) (v : Value), vs[j]? = some v → P j v) ∧ Paired FF (vs.filter p) ys)) : UseAt prog w A env scope cl x ifs elt z Q xv s₁
theorem comp_use {elt iter : Expr} {x z : Str} {px pz : Pos} {ifs : List Expr} {scope : Scope} {cl : List (Str × Addr)} {pos spos : Pos} {Q : Flow → Shared → Prop}
    (hsw : swapsWith (.ListComp elt [⟨.Name x px, iter, ifs, 0⟩] scope pos) (some (.Name z pz)) spos.line env = pure true)
    (hclos : closureFor scope env = pure cl) (hcell : ∀ y ∈ scope.names, y.2 ≠ .cell) (hkind : scope.kind = .function)
    (hnames : ∀ y ∈ scope.names, y.2 = .local → scope.names.lookup y.1 = some .local) (hx : scope.names.lookup x = some .local)
    (hz : env.kindOf z = some .local) (hp : (env.scope.kind == .class || (env.scope.kind == .module && env.locals != env.globals)) = false)
    (h : wpAny (model prog w) A (eval iter env) (UseAt prog w A env scope cl x ifs elt z Q) E s)
    (hs : ∀ x, foldedSetIterable iter env x = pure x := by intro _; rfl) :
    wpAny (model prog w) A (exec (.Assign [.Name z pz] (.ListComp elt [⟨.Name x px, iter, ifs, 0⟩] scope pos) spos) env) Q E s := by
  rw [exec_Assign_Name_used _ _ _ _ hsw]
  refine wpAny_bind (wpAny_standAt (wpAny_bind ?_))
  show wpAny _ A (do let _ ← comprehension (.ListComp elt [⟨.Name x px, iter, ifs, 0⟩] scope pos) scope env _ (newList []) false (eval iter env) (some (assign (.Name z pz) env))) _ _ s
  refine wpAny_bind (wpAny_mono (wpAny_comprehension_free (use := some (assign (.Name z pz) env)) (Q := fun _ s' => Q .next s') rfl hs hclos hkind hnames
    (wpAny_mono h (fun xv s₁ h₁ => ?_) fun _ _ e => e)) (fun _ s' hq => wpAny_pure (wpAny_pure hq)) fun _ _ e => e)
  obtain ⟨n, P, h₀, L, m, news, p, FF, ⟨fp, St, oI, hiter, W, hst, hfp⟩, hsz, hL, F, N, ⟨ht, he⟩, hd⟩ := h₁
  refine hiter _ _ ?_
  generalize hH : s₁.heap.push oI = H1 at hst ⊢
  have old : ∀ b o, s₁.heap.get? b = some o → H1.get? b = some o := fun b o e => hH ▸ Heap.get?_push_of_some _ e
  have hsz1 : H1.objs.size = s₁.heap.objs.size + 1 := by rw [← hH, Heap.size_push]
  have turnFacts : ∀ (C : Addr) (s₃ : Shared) (m₃ : Str → Option Value), H1.objs.size ≤ C → s₃.heap.Ns C m₃ → (∀ b o, b ∉ [s₁.heap.objs.size] → H1.get? b = some o → s₃.heap.get? b = some o) →
      ∃ oC, LCg.NsObj oC m₃ ∧ Fr h₀ L s₃.heap m ∧ News h₀ L s₃.heap ((C, oC) :: news) ∧ (∀ q ∈ news, q.1 < C) := by
    intro C s₃ m₃ hC hn hk
    obtain ⟨oC, hoC, hns⟩ := LCg.ns_obj hn
    have k3 : ∀ b o, s₁.heap.get? b = some o → s₃.heap.get? b = some o := fun b o e => hk b o (by
      intro hm
      rw [List.mem_singleton.mp hm] at e
      exact absurd (Heap.lt_size e) (Nat.lt_irrefl _)) (old b o e)
    have hCn : s₁.heap.objs.size ≤ C := by rw [hsz1] at hC; exact Nat.le_of_succ_le hC
    have hnone : s₁.heap.get? C = none := Heap.get?_none_of_le hCn
    refine ⟨oC, hns, F.keeps k3, fun q hq => ?_, fun q hq => Nat.lt_of_lt_of_le (Heap.lt_size (N q hq).1) hCn⟩
    rcases List.mem_cons.mp hq with rfl | hq
    · refine ⟨hoC, fun e => ?_, ?_⟩
      · have := F.ns.lt
        rw [← e] at this
        exact absurd (Nat.lt_of_lt_of_le this hCn) (Nat.lt_irrefl _)
      · cases q : h₀.get? C with
        | none => rfl
        | some o => have := F.keep _ _ q; rw [hnone] at this; cases this
    · exact ⟨k3 _ _ (N q hq).1, (N q hq).2⟩
  refine comp_block_walkC (RR := fun acc C => compPost (model prog w) A E (some (assign (.Name z pz) env)) (fun _ s' => Q .next s') acc C) (s₂ := { s₁ with heap := H1 }) W hsz p FF hcell hkind hx hst (fun b hb => ?_) ⟨?_, ?_⟩ ?_
  · show b < H1.objs.size; rw [hsz1]; exact hfp b hb
  · intro C i v s₃ m₃ E' hC hP hn hm hk _
    obtain ⟨oC, h1, h2, h3, h4⟩ := turnFacts C s₃ m₃ hC hn hk
    exact ht i v C oC m₃ s₃ E' hP h1 hm h2 h3 h4
  · intro C i v s₃ m₃ E' hC hP hp hn hm hk _
    obtain ⟨oC, h1, h2, h3, h4⟩ := turnFacts C s₃ m₃ hC hn hk
    exact he i v C oC m₃ s₃ E' hP hp h1 hm h2 h3 h4
  · intro D C h' tk m' ys vs' hD hC hDC hn hlD hplD hlen hP hF hk
    have k0 : ∀ b o, s₁.heap.get? b = some o → h'.get? b = some o := fun b o e => hk b o (by
      intro hm
      rw [List.mem_singleton.mp hm] at e
      exact absurd (Heap.lt_size e) (Nat.lt_irrefl _)) (old b o e)
    have none1 : ∀ b, H1.get? b = none → s₁.heap.get? b = none := fun b e => by
      cases q : s₁.heap.get? b with
      | none => rfl
      | some o => have := old _ _ q; rw [e] at this; cases this
    have none0 : ∀ b, H1.get? b = none → h₀.get? b = none := fun b e => by
      cases q : h₀.get? b with
      | none => rfl
      | some o => have := F.keep _ _ q; rw [none1 b e] at this; cases this
    have neL : ∀ b, H1.get? b = none → b ≠ L := fun b e hb => by
      obtain ⟨oL, _, _, hoL, _⟩ := F.ns
      have := old _ _ hoL
      rw [← hb, e] at this; cases this
    refine post_use hz hp hL (F.keeps k0) (fun q hq => ⟨k0 _ _ (N q hq).1, (N q hq).2⟩) hn (neL C hC) (neL D hD) hDC hplD (none0 C hC) (fun q hq e => by
      have := old _ _ (N q hq).1
      rw [e, hC] at this; cases this) fun h'' tk'' F2 N2 hpl2 k2 => ?_
    refine hd D h'' tk'' ys.toList ⟨vs', hlen, hP, hF⟩ F2 N2 (by simpa using hpl2) (none1 D hD) fun b o hb e => k2 b o hb (fun q => ?_) (k0 b o e)
    rw [q, none1 C hC] at e; cases e
end
end Mine
end
section
open PySem PySem.W PyProof.Rows PySem.Calls
set_option maxRecDepth 100000
set_option maxHeartbeats 0
namespace Mine
section
variable {prog : Program} {w : World} {A : Around} {s : Shared} {elt iter : Expr} {x : Str} {px : Pos} {ifs : List Expr} {scope : Scope} {pos : Pos} {cenv : Env} {R : Result → Shared → Prop}
end
section
variable {prog : Program} {w : World} {A : Around} {E : Value → Shared → Prop} {env : Env} {s : Shared}
/-- two clauses, stored under a name -/
inductive Use2At (prog : Program) (w : World) (A : Around) (env : Env) (cenvOf : Addr → Env) (x y : Str) (i2 : Expr) (ifs2 : List Expr) (elt : Expr) (z : Str) (Q : Flow → Shared → Prop) (xv : Value) (s₁ : Shared) : Prop
  | mk (n : Nat) (P : Nat → Value → Prop) (h₀ : Heap) (L : Addr) (m : Str → Option Value) (news : List (Addr × Obj)) (FF : Value → List Value → Prop) (q1 : Src prog w A xv s₁ n P) (q2 : n ≤ 1000) (q3 : env.locals = L) (q4 : Fr h₀ L s₁.heap m) (q5 : News h₀ L s₁.heap news) (q6 : (∀ (i : Nat) (v : Value) (C : Addr) (oC : Obj) (m₂ : Str → Option Value) (s₃ : Shared) (E' : Value → Shared → Prop), P i v → LCg.NsObj oC m₂ → m₂ x = some v → Fr h₀ L s₃.heap m → News h₀ L s₃.heap ((C, oC) :: news) → (∀ q ∈ news, q.1 < C) →
      wpAny (model prog w) A (eval i2 (cenvOf C)) (InnerAt prog w A cenvOf x y ifs2 elt h₀ L m news FF v C s₃) E' s₃)) (q7 : UseEnd Q z h₀ L m news s₁ (fun ys => ∃ (vs : List Value) (wss : List (List Value)), vs.length = n ∧ (∀ (j : Nat) (v : Value), vs[j]? = some v → P j v) ∧ Paired FF vs wss ∧ ys = wss.flatten)) : Use2At prog w A env cenvOf x y i2 ifs2 elt z Q xv s₁
theorem comp2_use {elt i1 i2 : Expr} {x y z : Str} {px py pz : Pos} {ifs2 : List Expr} {scope : Scope} {cl : List (Str × Addr)} {pos spos : Pos} {Q : Flow → Shared → Prop}
    (hsw : swapsWith (.ListComp elt [⟨.Name x px, i1, [], 0⟩, ⟨.Name y py, i2, ifs2, 0⟩] scope pos) (some (.Name z pz)) spos.line env = pure true)
    (hz : env.kindOf z = some .local) (hp : (env.scope.kind == .class || (env.scope.kind == .module && env.locals != env.globals)) = false)
    (hclos : closureFor scope env = pure cl) (hcell : ∀ z ∈ scope.names, z.2 ≠ .cell) (hkind : scope.kind = .function)
    (hnames : ∀ z ∈ scope.names, z.2 = .local → scope.names.lookup z.1 = some .local) (hx : scope.names.lookup x = some .local) (hy : scope.names.lookup y = some .local) (hxy : x ≠ y)
    (h : wpAny (model prog w) A (eval i1 env) (Use2At prog w A env (fun C => compEnvC scope cl C env) x y i2 ifs2 elt z Q) E s)
    (hs : ∀ z, foldedSetIterable i1 env z = pure z := by intro _; rfl) (hs2 : ∀ C z, foldedSetIterable i2 (compEnvC scope cl C env) z = pure z := by intro _ _; rfl) :
    wpAny (model prog w) A (exec (.Assign [.Name z pz] (.ListComp elt [⟨.Name x px, i1, [], 0⟩, ⟨.Name y py, i2, ifs2, 0⟩] scope pos) spos) env) Q E s := by
  rw [exec_Assign_Name_used _ _ _ _ hsw]
  refine wpAny_bind (wpAny_standAt (wpAny_bind ?_))
  show wpAny _ A (do let _ ← comprehension (.ListComp elt [⟨.Name x px, i1, [], 0⟩, ⟨.Name y py, i2, ifs2, 0⟩] scope pos) scope env _ (newList []) false (eval i1 env) (some (assign (.Name z pz) env))) _ _ s
  refine wpAny_bind (wpAny_mono (wpAny_comprehension_free (use := some (assign (.Name z pz) env)) (Q := fun _ s' => Q .next s') rfl hs hclos hkind hnames
    (wpAny_mono h (fun xv s₁ h₁ => ?_) fun _ _ e => e)) (fun _ s' hq => wpAny_pure (wpAny_pure hq)) fun _ _ e => e)
  obtain ⟨n, P, h₀, L, m, news, FF, ⟨fp, St, oI, hiter, W, hst, hfp⟩, hsz, hL, F, N, hin, hd⟩ := h₁
  refine hiter _ _ ?_
  generalize hH : s₁.heap.push oI = H1 at hst ⊢
  have old1 : ∀ b o, s₁.heap.get? b = some o → H1.get? b = some o := fun b o e => hH ▸ Heap.get?_push_of_some _ e
  have hsz1 : H1.objs.size = s₁.heap.objs.size + 1 := by rw [← hH, Heap.size_push]
  refine wpAny_newObj_type (wpAny_newFunctionEnv hcell (by intro z hz; simp at hz) (fun h₁ hns₁ hsb₁ => ?_) hkind)
  dsimp only at hns₁ hsb₁ ⊢
  generalize hH2 : H1.push { cls := .type "list", dict := none, data := .seq ([] : List Value).toArray } = H2 at hns₁ hsb₁ ⊢
  have hC : H2.objs.size = H1.objs.size + 1 := by rw [← hH2, Heap.size_push]
  have hDC : H1.objs.size ≠ H2.objs.size := by rw [hC]; exact Nat.ne_of_lt (Nat.lt_succ_self _)
  have below : ∀ b, b < H1.objs.size → b ≠ H2.objs.size ∧ b ≠ H1.objs.size := fun b hb => ⟨by rw [hC]; exact Nat.ne_of_lt (Nat.lt_succ_of_lt hb), Nat.ne_of_lt hb⟩
  have hfp' : ∀ b ∈ fp, b < H1.objs.size := fun b hb => by rw [hsz1]; exact hfp b hb
  have hDf : H1.objs.size ∉ fp := fun hm => Nat.lt_irrefl _ (hfp' _ hm)
  have hCf : H2.objs.size ∉ fp := fun hm => by have := hfp' _ hm; rw [hC] at this; exact Nat.lt_irrefl _ (Nat.lt_of_succ_lt this)
  have old : ∀ b o, H1.get? b = some o → h₁.get? b = some o := fun b o e => hsb₁.extBut b o (below b (Heap.lt_size e)).1 (Heap.get?_push_of_some _ (hH2 ▸ Heap.get?_push_of_some _ e))
  have hacc : h₁.PlainList H1.objs.size #[] := ⟨_, hsb₁.extBut _ _ hDC (Heap.get?_push_of_some _ (hH2 ▸ Heap.get?_push_size _ rfl))⟩
  have hst₁ : St 0 h₁ := W.frame _ _ _ hst fun b _ o e => old b o e
  have fresh1 : ∀ a, s₁.heap.objs.size ≤ a → s₁.heap.get? a = none := fun a ha => Heap.get?_none_of_le ha
  have fresh0 : ∀ a, s₁.heap.objs.size ≤ a → h₀.get? a = none := fun a ha => by
    cases e : h₀.get? a with
    | none => rfl
    | some o' => have := F.keep a o' e; rw [fresh1 a ha] at this; cases this
  have neL : ∀ a, s₁.heap.objs.size ≤ a → a ≠ L := fun a ha e => by
    have := F.ns.lt
    rw [← e] at this
    exact absurd (Nat.lt_of_lt_of_le this ha) (Nat.lt_irrefl _)
  have ltN : ∀ q ∈ news, q.1 < s₁.heap.objs.size := fun q hq => Heap.lt_size (N q hq).1
  have hIs : s₁.heap.objs.size ≤ s₁.heap.objs.size := Nat.le_refl _
  have hDs : s₁.heap.objs.size ≤ H1.objs.size := by rw [hsz1]; exact Nat.le_succ _
  have hCs : s₁.heap.objs.size ≤ H2.objs.size := by rw [hC, hsz1]; exact Nat.le_succ_of_le (Nat.le_succ _)
  have k1 : ∀ b o, s₁.heap.get? b = some o → h₁.get? b = some o := fun b o e => old b o (old1 b o e)
  have fin : ∀ (tk0 : Nat), codeAny (model prog w) A (.compLoop (E2 elt x px i1 y py i2 ifs2 scope pos) 0 (.ref s₁.heap.objs.size) (.ref H1.objs.size) (compEnvC scope cl H2.objs.size env))
      (compPost (model prog w) A E (some (assign (.Name z pz) env)) (fun _ s' => Q .next s') (.ref H1.objs.size) H2.objs.size) { s₁ with heap := h₁, toks := tk0 } := by
    intro tk0
    refine outer_loop (s := { s₁ with heap := h₁, toks := tk0 }) (cenvOf := fun C => compEnvC scope cl C env) (C := H2.objs.size) W rfl (lookup_relabel_local hx) (lookup_relabel_local hy) hxy (by simp [compEnvC, relabel, hkind]) (hs2 _) hDC hDf hCf hst₁ hacc hns₁ hsz
      (F.keeps k1) (fun q hq => ⟨k1 _ _ (N q hq).1, (N q hq).2⟩) (fresh0 _ hCs) (neL _ hCs) (fun q hq => Nat.lt_of_lt_of_le (ltN q hq) hCs) (fresh0 _ hDs) (neL _ hDs) (fun q hq => Nat.ne_of_lt (Nat.lt_of_lt_of_le (ltN q hq) hDs)) (fresh0 _ hIs) (neL _ hIs) (fun q hq => Nat.ne_of_lt (ltN q hq)) hin ?_
    intro h' tk m' vs wss hn' hpl hlen hP hF hk
    have k0 : ∀ b o, s₁.heap.get? b = some o → h'.get? b = some o := fun b o e => by
      have hb := Heap.lt_size e
      exact hk b o (Nat.ne_of_lt (Nat.lt_of_lt_of_le hb hCs)) (Nat.ne_of_lt hb) (Nat.ne_of_lt (Nat.lt_of_lt_of_le hb hDs)) (k1 b o e)
    refine post_use hz hp hL (F.keeps k0) (fun q hq => ⟨k0 _ _ (N q hq).1, (N q hq).2⟩) hn' (neL _ hCs) (neL _ hDs) hDC hpl (fresh0 _ hCs) (fun q hq => Nat.ne_of_lt (Nat.lt_of_lt_of_le (ltN q hq) hCs)) fun h'' tk'' F2 N2 hpl2 k2 => ?_
    refine hd H1.objs.size h'' tk'' wss.flatten ⟨vs, wss, hlen, hP, hF, rfl⟩ F2 N2 hpl2 (fresh1 _ hDs) fun b o hb e => k2 b o hb (fun q => ?_) (k0 b o e)
    rw [q, fresh1 _ hCs] at e; cases e
  exact start_outer (cenv := compEnvC scope cl H2.objs.size env) (fin _) (W.self 0 _ _ _ hst₁ (fin _))
end
end Mine
end
section
open PySem PySem.W PyProof.Rows PySem.Calls
set_option maxRecDepth 100000
namespace Mine
section
variable {prog : Program} {w : World} {A : Around} {E : Value → Shared → Prop} {s : Shared} {env : Env} {h₀ : Heap} {x : Str} {body : List Stmt} {Q : Flow → Shared → Prop}
/-- a for over a list that stands in the ledger: J tells what holds between the turns, of the names and the ledger -/
theorem iter_gen {l : Addr} {vs : List Value} {m₀ : Str → Option Value} {news all : List (Addr × Obj)} {ol : Obj} (J : Nat → (Str → Option Value) → List (Addr × Obj) → Prop)
    (hh : A.handled = none) (F : Fr h₀ env.locals s.heap m₀) (N0 : News h₀ env.locals s.heap all) (sub : ∀ p ∈ news, p ∈ all) (hJl : ∀ i m n, J i m n → (l, ol) ∈ n) (hl : s.heap.IsList l vs.toArray) (hj : J 0 m₀ news)
    (turn : ∀ (iT : Nat) (vT : Value) (IT : Addr) (oT : Obj) (mT : Str → Option Value) (newsT : List (Addr × Obj)) (hT : Heap) (tkT : Nat) (hvT : vs[iT]? = some vT) (hI0 : ∀ p ∈ news, @LT.lt Nat _ p.1 IT) (hIT : ∀ p ∈ newsT, @Ne Nat p.1 IT) (HJ : J iT mT newsT) (FT : Fr h₀ env.locals hT (fun y => if y = x then some vT else mT y)) (NT : News h₀ env.locals hT ((IT, oT) :: newsT)),
      wpAny (model prog w) A (execs body env) (UnrPost h₀ env.locals { s with heap := hT, toks := tkT } IT oT (J (iT + 1)) Q) E { s with heap := hT, toks := tkT })
    (done : ∀ (mT : Str → Option Value) (newsT : List (Addr × Obj)) (hT : Heap) (tkT : Nat) (HJ : J vs.length mT newsT) (FT : Fr h₀ env.locals hT mT) (NT : News h₀ env.locals hT newsT), Q .next { s with heap := hT, toks := tkT }) :
    wpAny (model prog w) A (pyIter (.ref l)) (fun it s₂ => LoopAtV prog w A h₀ env x body Q E it s₂) E s := by
  have N : News h₀ env.locals s.heap news := fun p hp => N0 p (sub p hp)
  have hm : (l, ol) ∈ news := hJl _ _ _ hj
  have hlt : l < s.heap.objs.size := Heap.lt_size (N _ hm).1
  have hne : l ≠ s.heap.objs.size := Nat.ne_of_lt hlt
  refine wpAny_pyIter_list hl ?_
  have W := Walks.list (prog := prog) (w := w) hh s.heap.objs.size l hne vs.toArray
  have hlen : vs.toArray.size = vs.length := by simp
  rw [hlen] at W
  refine ⟨_, _, _, vs.length, _, _, m₀, news, J, rfl, W, ?_, ?_, ?_, ⟨⟨_, Heap.get?_push_size _ rfl, rfl, rfl⟩, hl.at fun o e => Heap.get?_push_of_some _ e⟩, F.push _, (fun p hp => ⟨Heap.get?_push_of_some _ (N p hp).1, (N p hp).2⟩), hj, ?_, ?_⟩
  · intro hq
    rcases List.mem_cons.mp hq with e | hq
    · exact absurd F.ns.lt (e ▸ Nat.lt_irrefl _)
    · exact (N _ hm).2.1 (List.mem_singleton.mp hq).symm
  · intro b hb
    rw [List.mem_singleton.mp hb]
    exact next_is_new F
  · intro p hp hI
    exact absurd (Heap.lt_size (N p hp).1) ((List.mem_singleton.mp hI) ▸ Nat.lt_irrefl _)
  · rintro i v m₁ news₁ s₁ own ⟨hh', tk', rfl⟩ hin hP hJ hoff hown hget hall hst F₁ N₁
    have hv : vs[i]? = some v := by simpa using hP
    have hm₁ : (l, ol) ∈ news₁ := hJl _ _ _ hJ
    obtain ⟨⟨oI, hoI, _⟩, _⟩ := hst
    have hIo : (s.heap.objs.size, oI) ∈ own := hall _ (List.mem_cons_self ..) (by
      cases q : h₀.get? s.heap.objs.size with
      | none => rfl
      | some o => exact absurd (Heap.lt_size (F.keep _ _ q)) (Nat.lt_irrefl _)) _ hoI
    have N2 : News h₀ env.locals hh' ((s.heap.objs.size, oI) :: news₁) := fun p hp => by
      rcases List.mem_cons.mp hp with rfl | hp
      · exact N₁ _ (List.mem_append_left _ hIo)
      · exact N₁ _ (List.mem_append_right _ hp)
    have hIlt : ∀ p ∈ news, @LT.lt Nat _ p.1 s.heap.objs.size := fun p hp => Heap.lt_size (N p hp).1
    have hIne : ∀ p ∈ news₁, @Ne Nat p.1 s.heap.objs.size := fun p hp e => hoff p hp (List.mem_singleton.mpr e)
    refine wpAny_mono (turn i v s.heap.objs.size oI m₁ news₁ hh' tk' hv hIlt hIne hJ F₁ N2) (fun f s₂ p => ?_) fun _ _ e => e
    have fin : UnrEnd h₀ env.locals { s with heap := hh', toks := tk' } s.heap.objs.size oI (J (i + 1)) s₂ → LoopStepU h₀ env.locals [s.heap.objs.size] own (J (i + 1)) { s with heap := hh', toks := tk' } .next s₂ := by
      rintro ⟨h', tk, m', news', e, F', N', hoff', hJ'⟩
      have hl' := hJl _ _ _ hJ'
      refine ⟨rfl, h', tk, m', news', e, F', fun p hp => ?_, fun p hp hI => hoff' p hp (List.mem_singleton.mp hI), hJ'⟩
      rcases List.mem_append.mp hp with q | q
      · have h1 := hown p q
        have h2 := hget p q
        rcases List.mem_cons.mp h1 with e1 | h1
        · have h2' : hh'.get? s.heap.objs.size = some p.2 := e1 ▸ h2
          have : p = (s.heap.objs.size, oI) := Prod.ext e1 (Option.some.inj (h2'.symm.trans hoI))
          rw [this]; exact N' _ (.head _)
        · have e1 := List.mem_singleton.mp h1
          have h3 := (N₁ _ (List.mem_append_right _ hm₁)).1
          have h2' : hh'.get? l = some p.2 := e1 ▸ h2
          have : p = (l, ol) := Prod.ext e1 (Option.some.inj (h2'.symm.trans h3))
          rw [this]; exact N' _ (.tail _ hl')
      · exact N' _ (.tail _ q)
    cases f with
    | ret v => exact .ret p
    | brk => exact .brk p
    | next => exact .next (fin p)
    | cont => exact .cont (fin p)
  · rintro h' tk m' news' F' N' _ hJ
    exact done m' news' h' tk hJ F' N'
end
end Mine
end
section
open PySem PySem.W PyProof.Rows PySem.Calls
set_option maxRecDepth 100000
set_option maxHeartbeats 0
namespace Mine
theorem kc_nine {cm : Str → Option Value} {n₁ n₂ n₃ n₄ n₅ n₆ n₇ n₈ n₉ : Str} {c₁ c₂ c₃ c₄ c₅ c₆ c₇ c₈ c₉ : Addr} {cells : List (Addr × Obj)} (x : CellsAre cm [(n₁, c₁), (n₂, c₂), (n₃, c₃), (n₄, c₄), (n₅, c₅), (n₆, c₆), (n₇, c₇), (n₈, c₈), (n₉, c₉)] cells) :
    ∃ o₁ o₂ o₃ o₄ o₅ o₆ o₇ o₈ o₉, cells = [(c₁, o₁), (c₂, o₂), (c₃, o₃), (c₄, o₄), (c₅, o₅), (c₆, o₆), (c₇, o₇), (c₈, o₈), (c₉, o₉)] ∧ o₁.data = .cell (cm n₁) ∧ o₂.data = .cell (cm n₂) ∧ o₃.data = .cell (cm n₃) ∧ o₄.data = .cell (cm n₄) ∧ o₅.data = .cell (cm n₅) ∧ o₆.data = .cell (cm n₆) ∧ o₇.data = .cell (cm n₇) ∧ o₈.data = .cell (cm n₈) ∧ o₉.data = .cell (cm n₉) := by
  cases x with | cons h r => obtain ⟨o₂, o₃, o₄, o₅, o₆, o₇, o₈, o₉, rfl, h₂, h₃, h₄, h₅, h₆, h₇, h₈, h₉⟩ := kc_eight r; exact ⟨_, o₂, o₃, o₄, o₅, o₆, o₇, o₈, o₉, rfl, h, h₂, h₃, h₄, h₅, h₆, h₇, h₈, h₉⟩
end Mine
end
section
open PySem PySem.W PyProof.Rows PySem.Calls
set_option maxRecDepth 100000
set_option maxHeartbeats 0
namespace Mine
abbrev lstO (acc : Array Value) (c : Nat) : Obj := { cls := .type "list", dict := none, data := .seq acc c, slots := #[] }
section
variable {prog : Program} {w : World} {A : Around} {E : Value → Shared → Prop} {s : Shared} {env : Env} {test : Expr} {body : List Stmt} {Q : Flow → Shared → Prop}
/-- a while: I tells what holds between the turns, n falls -/
theorem while_gen {pos : Pos} (I : Nat → Shared → Prop)
    (turn : ∀ n s, I n s → wpAny (model prog w) A (isTrue test env (eval test env)) (fun b s₂ => if b then wpAny (model prog w) A (execs body env) (TurnEnd (fun s' => ∃ m, m < n ∧ I m s') Q) E s₂ else Q .next s₂) E s) (n : Nat) (h : I n s)
    (hE : PassesOwn (model prog w) A env E := by passes_own) :
    wpAny (model prog w) A (exec (.While test body [] pos) env) Q E s := by
  refine wpAny_While (codeAny_whileLoop (R := fun r s' => match r with | .ok f => Q f s' | .error e => cameBackBy (model prog w) A env E e s') I (fun n s hI => ?_) n h)
  refine wpAny_mono (turn n s hI) (fun b s₂ h₂ => ?_) hE
  cases b with
  | true =>
    rw [if_pos rfl] at h₂ ⊢
    refine wpAny_mono h₂ (fun f s₃ h₃ => ?_) hE
    cases f <;> exact h₃
  | false =>
    rw [if_neg (by decide)] at h₂ ⊢
    exact wpAny_execs_nil h₂
end
section
variable {prog : Program} {w : World} {A : Around} {E : Value → Shared → Prop} {s : Shared} {h₀ : Heap} {L D : Addr} {m : Str → Option Value} {news : List (Addr × Obj)} {n : Nat} {g : Obj → List (Addr × Obj)} {Q : Value → Shared → Prop}
theorem upd_lst {f : Array Value → Array Value} {a a' : Array Value} (e : f a = a') : ∃ k, Obj.mapSeq f (lstO a n) = lstO a' k := ⟨_, by subst e; rfl⟩
theorem pop_split {i : Int} {u : Tok} {p q : List Value} {y : Value} (F : Fr h₀ L s.heap m) (N : News h₀ L s.heap news) (U : UpdF D (lstO (p ++ y :: q).toArray n) news g) (hi : i = (p.length : Int)) (hz : (p ++ y :: q).length ≤ 100000)
    (h : ∀ h' k, Fr h₀ L h' m → News h₀ L h' (g (lstO (p ++ q).toArray k)) → Q y { s with heap := h' }) : wpAny (model prog w) A (call (.builtin "list.pop") [.ref D, .int i u]) Q E s := by
  obtain ⟨pre, post, hls, hg, a, c⟩ := U.split
  have z := N (D, lstO (p ++ y :: q).toArray n) (by rw [hls]; exact List.mem_append_right _ (.head _))
  have hy : (p ++ y :: q).toArray[p.length]? = some y := by simp
  have hz' : (p ++ y :: q).toArray.size ≤ sizeLine := by rw [List.size_toArray, sizeLine_eq]; omega
  have hsz : (p ++ y :: q).toArray.size = p.length + (q.length + 1) := by rw [List.size_toArray, List.length_append, List.length_cons]
  have hf : Builtin.List.listFitsIndex i = true := by
    rw [List.length_append, List.length_cons] at hz
    unfold Builtin.List.listFitsIndex
    simp only [Bool.and_eq_true, decide_eq_true_eq]
    omega
  have hk : seqIndex? i (p ++ y :: q).toArray.size = some p.length := by
    have := StrLaws.seqIndex_nonneg (i := i) (n := (p ++ y :: q).toArray.size) (by omega) (by omega)
    rw [this, hi]; rfl
  obtain ⟨k, ek⟩ := upd_lst (n := n) (f := fun xs => xs.eraseIdxIfInBounds p.length) (a := (p ++ y :: q).toArray) (a' := (p ++ q).toArray) (kl_erase p q y)
  have ⟨U1, U2⟩ := news_upd (f := Obj.mapSeq fun xs => xs.eraseIdxIfInBounds p.length) (o' := lstO (p ++ q).toArray k) F (hls ▸ N) a c ek rfl
  exact call_meets PySem.F.slot_list_pop ⟨_, z.1, rfl⟩ PySem.F.entry_list_pop (PySem.F.args_list_pop_2 _ _) (PySem.MeetsSeq.list_pop_at D _ n i u _ y hf hk hy hz') ⟨z.1, h _ _ U1 (hg _ ▸ U2)⟩
theorem append_one {ls : List Value} {y : Value} (F : Fr h₀ L s.heap m) (N : News h₀ L s.heap news) (U : UpdF D (lstO ls.toArray n) news g) (hz : ls.length ≤ 100000)
    (h : ∀ h' k, Fr h₀ L h' m → News h₀ L h' (g (lstO (ls ++ [y]).toArray k)) → Q .none { s with heap := h' }) : wpAny (model prog w) A (call (.builtin "list.append") [.ref D, y]) Q E s := by
  obtain ⟨pre, post, hls, hg, a, c⟩ := U.split
  have z := N (D, lstO ls.toArray n) (by rw [hls]; exact List.mem_append_right _ (.head _))
  refine append_at (hsz := by rw [List.size_toArray, sizeLine_eq]; omega) z.1 fun h' hs ho' => ?_
  have e : (ls.toArray.push y) = (ls ++ [y]).toArray := by simp
  rw [e] at ho'
  exact h h' (n + 1) (F.change hs z.2.1 z.2.2) (hg _ ▸ news_set (hls ▸ N) a c hs ho')
theorem len_lst {ls : List Value} (N : News h₀ L s.heap news) (hm : (D, lstO ls.toArray n) ∈ news) (hz : ls.length ≤ 100000) (h : ∀ t' k, Q (.int (ls.length : Int) t') { s with toks := k }) : wpAny (model prog w) A (call (.builtin "len") [.ref D]) Q E s := by
  refine call_len_list (items := ls.toArray) (N.isList hm) (by rw [List.size_toArray]; omega) ?_
  rw [List.size_toArray]
  exact h _ _
def RngVals (vs : List Value) (N : Nat) : Prop := vs.length = N ∧ ∀ (j : Nat) (v : Value), vs[j]? = some v → ∃ t, v = .int (j : Int) t
theorem rng_size {n : Nat} : Builtin.Range.rangeSize 0 (n : Int) 1 = (n : Int) := by
  unfold Builtin.Range.rangeSize
  rw [if_pos (by decide)]
  split <;> omega
theorem list_rng {r : Addr} {b : Int} {N : Nat} {t u v : Tok} (hh : A.handled = none) (F : Fr h₀ L s.heap m) (Nw : News h₀ L s.heap news) (hr : IsRange s.heap r 0 b 1 t u v) (hb : b = (N : Int)) (hN : N ≤ 1000)
    (h : ∀ D vs c h' tk', RngVals vs N → Fr h₀ L h' m → News h₀ L h' ((D, lstO vs.toArray c) :: news) → (∀ p ∈ news, p.1 < D) → Q (.ref D) { s with heap := h', toks := tk' }) :
    wpAny (model prog w) A (call (.type "list") [.ref r]) Q E s := by
  subst hb
  refine call_list_range hh hr (small_one (by decide) (by decide) (by omega) (by omega)) rng_size (by omega) fun h' tk' acc c hk hD hi => ?_
  have hn : h₀.get? s.heap.objs.size = none := by
    cases e : h₀.get? s.heap.objs.size with
    | none => rfl
    | some o => exact absurd (Heap.lt_size (F.keep _ _ e)) (Nat.lt_irrefl _)
  refine h s.heap.objs.size acc.toList c h' tk' ⟨by simpa using hi.1, fun j v hv => ?_⟩ (F.keeps hk) (fun p hp => ?_) fun p hp => Heap.lt_size (Nw p hp).1
  · obtain ⟨t, e⟩ := hi.2 j v (by simpa using hv)
    exact ⟨t, by rw [e]; congr 1; omega⟩
  · rcases List.mem_cons.mp hp with rfl | hp
    · exact ⟨by simpa using hD, fun e => absurd F.ns.lt (by rw [← e]; exact Nat.lt_irrefl _), hn⟩
    · exact ⟨hk _ _ (Nw p hp).1, (Nw p hp).2⟩
end
end Mine
end
section
open PySem PySem.W PyProof.Rows PySem.Calls
set_option maxRecDepth 100000
set_option maxHeartbeats 0
namespace Mine
local macro_rules | `(tactic| k_room) => `(tactic| ktr_room)
local macro_rules | `(tactic| walk_at "exec While") => `(tactic| refine hold_ ?_)
inductive JO (g : Heap) (L' : Addr) (m0 : Str → Option Value) (lO D : Addr) (vs : List Value) (s₀ : Shared) (k : Nat) (s' : Shared) : Prop
  | mk (h : Heap) (tk : Nat) (ls os : List Value) (cL cO : Nat) (n : Int) (t : Tok) (q1 : k = ls.length) (q2 : s' = { s₀ with heap := h, toks := tk }) (q3 : Fr g L' h (fun y => if y = Str.ofString "n" then some (.int n t) else m0 y)) (q4 : News g L' h [(lO, lstO os.toArray cO), (D, lstO ls.toArray cL)]) (q5 : (os ++ ls).Perm vs) : JO g L' m0 lO D vs s₀ k s'
theorem map_n {m0 : Str → Option Value} {v : Value} (h : m0 (Str.ofString "n") = some v) : m0 = fun y => if y = Str.ofString "n" then some v else m0 y := by
  funext y
  by_cases e : y = Str.ofString "n"
  · rw [if_pos e, e, h]
  · rw [if_neg e]
theorem fr_n {g h : Heap} {L : Addr} {m0 : Str → Option Value} {v : Value} (F : Fr g L h m0) (e : m0 (Str.ofString "n") = some v) : Fr g L h (fun y => if y = Str.ofString "n" then some v else m0 y) := map_n e ▸ F
theorem map_nn {m0 : Str → Option Value} {u v : Option Value} : (fun y => if y = Str.ofString "n" then u else if y = Str.ofString "n" then v else m0 y) = fun y => if y = Str.ofString "n" then u else m0 y := by
  funext y
  by_cases e : y = Str.ofString "n"
  · rw [if_pos e, if_pos e]
  · rw [if_neg e, if_neg e, if_neg e]
theorem cut_at {ls : List Value} {k : Nat} (h : k < ls.length) : ∃ p y q, ls = p ++ y :: q ∧ p.length = k := ⟨ls.take k, ls[k], ls.drop (k + 1), by rw [← List.drop_eq_getElem_cons h, List.take_append_drop], by rw [List.length_take]; omega⟩
theorem perm_move {os p q vs : List Value} {y : Value} (h : (os ++ (p ++ y :: q)).Perm vs) : ((os ++ [y]) ++ (p ++ q)).Perm vs := by
  refine List.Perm.trans ?_ h
  rw [List.append_assoc]
  exact List.Perm.append_left os (by
    rw [List.singleton_append]
    exact (List.perm_middle).symm)
local macro_rules | `(tactic| walk_at "call builtin:len") => `(tactic| (k_here; (with_reducible show wpAny _ _ (call (Value.builtin "len") [Value.ref _]) _ _ _); (with_unfolding_all refine' len_lst ?k1 ?k2 ?k3 ?_); (case k1 => k_asm); (case k2 => k_mem); (case k3 => omega); intro _ _))
local macro_rules | `(tactic| walk_at "call builtin:list.pop") => `(tactic| (k_here; refine hold_ ?_))
local macro_rules | `(tactic| walk_at "call builtin:list.append") => `(tactic| (k_here; refine hold_ ?_))
theorem order_l {w : World} {loose : List Str} {mean : ExcName → Option Value} {mg mb : Str → Option Value}
  {dp un : Nat} {gd : Option (List Code)} {cn : Str} {cs : Scope} {a : Addr} {ccd : Value} {cl : List (Str × Addr)} {outer : List Env} {A₀ : Around} {base h₀ : Heap} {L : Addr} {m : Str → Option Value} {s : Shared} {Q E : Value → Shared → Prop}
  {al : Addr} {vs : List Value} {n₀ : Int} {t₀ : Tok}
  (B : Below A₀ base outer h₀) (F : Fr h₀ L s.heap m) (X : (hd.heap_39 w.params).In h₀) (T : Top topProg loose mean mg mb h₀) (hk : cs.kind = .function) (hdp : dp + 16 < recursionLimit) (hun : un + 128 < cLine)
  (hl : s.heap.IsList al vs.toArray) (hsz : vs.length ≤ 1000)
  (hret : ∀ (D : Addr) (ys : List Value) (c : Nat) (h' : Heap) (tk' : Nat), ys.Perm vs → s.heap.StaysIn h' → h'.get? D = some (lstO ys.toArray c) → s.heap.get? D = none → Q (.ref D) { s with heap := h', toks := tk' }) :
  wpAny (model Challenge.rw_ij0195_02.row.prog w) (ktrTop dp un gd cn cs L a ccd cl outer) (call (.ref 107) [.ref al, .int n₀ t₀]) Q E s := by
  w_strict (
    (revert X; k_fill; intro X)
    refine wpAny_call ?_
    refine' callP ?k1 ?k2 ?k3 ?k5 ?kA ?kF ?kK ?k6 ?k7 ?k8 ?k9 ?kB ?_ ?c2 ?c3 ?c4 ?c5
    (case kA => exact rfl); (case kF => exact rfl); (case kK => assumption); (case k1 => k_asm); (case k2 => k_asm); (case k3 => k_asm); (case k5 => k_asm); (case k6 => k_is); (case k7 => k_is); (case k8 => ktr_room); (case k9 => exact BindsTo.of_eq rfl); (case c5 => decide); (case kB => exact locs rfl); (case c2 => exact rfl); (case c3 => exact rfl); (case c4 => exact rfl)
    k_whole
    intro L' h' F' N' B' X' T'
    (try dsimp only)
    (try k_lift B')
    (try k_fold)
    k_steps
    refine of_hold ?_
    with_reducible rename Fr _ _ _ _ => F1
    with_reducible rename News _ _ _ _ => N1
    have F1' := fr_n (v := .int n₀ t₀) F1 (by rfl)
    with_unfolding_all refine while_gen (JO _ _ _ _ _ vs s) ?_ vs.length ⟨_, _, vs, [], _, _, n₀, t₀, rfl, rfl, F1', N1, List.Perm.refl _⟩
    clear F1 F1' N1
    rintro k s' ⟨h2, tk2, ls, os, cL, cO, n, t, rfl, rfl, F2, N2, hperm⟩
    have hlen := hperm.length_eq
    rw [List.length_append] at hlen
    rcases hls : ls with _ | ⟨l1, lr⟩
    · subst hls
      k_steps
      dsimp only
      k_steps
      exact hret _ os cO _ _ (by simpa using hperm) F2.keep (N2 _ (.head _)).1 (N2.fresh (.head _))
    · have hpos : 0 < ls.length := by rw [hls]; simp
      rw [← hls]
      clear hls
      have h0 : 0 ≤ n.fmod (ls.length : Int) := Int.fmod_nonneg_of_pos n (by omega)
      have h1 : n.fmod (ls.length : Int) < (ls.length : Int) := Int.fmod_lt_of_pos n (by omega)
      obtain ⟨p, y, q, rfl, hp⟩ := cut_at (ls := ls) (k := (n.fmod (ls.length : Int)).toNat) (by omega)
      k_steps
      refine wpAny_truthy_list (items := (p ++ y :: q).toArray) (N2.isList (.tail _ (.head _))) (by rw [List.size_toArray]; omega) ?_
      rw [show (!(p ++ y :: q).toArray.isEmpty) = true from by simp]
      k_steps
      refine of_hold ?_
      with_unfolding_all refine' pop_split (p := p) (q := q) (y := y) ?j1 ?j2 ?j3 ?j4 ?j5 ?_
      (case j1 => k_asm)
      (case j2 => k_asm)
      (case j3 => k_updF)
      (case j4 => omega)
      (case j5 => omega)
      intro h3 k3 F3 N3
      (try dsimp only at N3)
      clear F2 N2
      k_steps
      refine of_hold ?_
      with_unfolding_all refine' append_one (ls := os) ?j1 ?j2 ?j3 ?j4 ?_
      (case j1 => k_asm)
      (case j2 => k_asm)
      (case j3 => k_updF)
      (case j4 => omega)
      intro h4 k4 F4 N4
      (try dsimp only at N4)
      clear F3 N3
      have hpl : (p ++ q).length + 1 = (p ++ y :: q).length := by rw [List.length_append, List.length_append, List.length_cons]; omega
      k_steps
      with_reducible rename Fr _ _ _ _ => F5
      with_reducible rename News _ _ _ _ => N5
      rw [map_nn] at F5
      exact ⟨(p ++ q).length, by omega, _, _, p ++ q, os ++ [y], _, _, _, _, rfl, rfl, F5, N5, perm_move hperm⟩)
local macro_rules | `(tactic| walk_at "call type:list") => `(tactic| (k_here; refine hold_ ?_))
theorem order_r {w : World} {loose : List Str} {mean : ExcName → Option Value} {mg mb : Str → Option Value}
  {dp un : Nat} {gd : Option (List Code)} {cn : Str} {cs : Scope} {a : Addr} {ccd : Value} {cl : List (Str × Addr)} {outer : List Env} {A₀ : Around} {base h₀ : Heap} {L : Addr} {m : Str → Option Value} {s : Shared} {Q E : Value → Shared → Prop}
  {al : Addr} {b : Int} {N : Nat} {u1 u2 u3 : Tok} {n₀ : Int} {t₀ : Tok}
  (B : Below A₀ base outer h₀) (F : Fr h₀ L s.heap m) (X : (hd.heap_39 w.params).In h₀) (T : Top topProg loose mean mg mb h₀) (hk : cs.kind = .function) (hdp : dp + 16 < recursionLimit) (hun : un + 128 < cLine)
  (hr : IsRange s.heap al 0 b 1 u1 u2 u3) (hb : b = (N : Int)) (hN : N ≤ 1000)
  (hret : ∀ (D : Addr) (vs ys : List Value) (c : Nat) (h' : Heap) (tk' : Nat), RngVals vs N → ys.Perm vs → s.heap.StaysIn h' → h'.get? D = some (lstO ys.toArray c) → s.heap.get? D = none → Q (.ref D) { s with heap := h', toks := tk' }) :
  wpAny (model Challenge.rw_ij0195_02.row.prog w) (ktrTop dp un gd cn cs L a ccd cl outer) (call (.ref 107) [.ref al, .int n₀ t₀]) Q E s := by
  w_strict (
    (revert X; k_fill; intro X)
    refine wpAny_call ?_
    refine' callP ?k1 ?k2 ?k3 ?k5 ?kA ?kF ?kK ?k6 ?k7 ?k8 ?k9 ?kB ?_ ?c2 ?c3 ?c4 ?c5
    (case kA => exact rfl); (case kF => exact rfl); (case kK => assumption); (case k1 => k_asm); (case k2 => k_asm); (case k3 => k_asm); (case k5 => k_asm); (case k6 => k_is); (case k7 => k_is); (case k8 => ktr_room); (case k9 => exact BindsTo.of_eq rfl); (case c5 => decide); (case kB => exact locs rfl); (case c2 => exact rfl); (case c3 => exact rfl); (case c4 => exact rfl)
    k_whole
    intro L' h' F' N' B' X' T'
    (try dsimp only)
    (try k_lift B')
    (try k_fold)
    k_steps
    refine of_hold ?_
    refine list_rng (by rfl) (by k_asm) (by k_asm) (Fr.keep (F') _ _ hr) hb hN fun D vs c h1 tk1 hvs F1 N1 l1 => ?_
    have hsz : vs.length ≤ 1000 := by rw [hvs.1]; exact hN
    k_lt l1
    k_steps
    refine of_hold ?_
    with_reducible rename Fr _ _ _ _ => F1
    with_reducible rename News _ _ _ _ => N1
    have F1' := fr_n (v := .int n₀ t₀) F1 (by rfl)
    with_unfolding_all refine while_gen (JO _ _ _ _ _ vs s) ?_ vs.length ⟨_, _, vs, [], _, _, n₀, t₀, rfl, rfl, F1', N1, List.Perm.refl _⟩
    clear F1 F1' N1
    rintro k s' ⟨h2, tk2, ls, os, cL, cO, n, t, rfl, rfl, F2, N2, hperm⟩
    have hlen := hperm.length_eq
    rw [List.length_append] at hlen
    rcases hls : ls with _ | ⟨l1, lr⟩
    · subst hls
      k_steps
      dsimp only
      k_steps
      exact hret _ vs os cO _ _ hvs (by simpa using hperm) F2.keep (N2 _ (.head _)).1 (N2.fresh (.head _))
    · have hpos : 0 < ls.length := by rw [hls]; simp
      rw [← hls]
      clear hls
      have h0 : 0 ≤ n.fmod (ls.length : Int) := Int.fmod_nonneg_of_pos n (by omega)
      have h1 : n.fmod (ls.length : Int) < (ls.length : Int) := Int.fmod_lt_of_pos n (by omega)
      obtain ⟨p, y, q, rfl, hp⟩ := cut_at (ls := ls) (k := (n.fmod (ls.length : Int)).toNat) (by omega)
      k_steps
      refine wpAny_truthy_list (items := (p ++ y :: q).toArray) (N2.isList (.tail _ (.head _))) (by rw [List.size_toArray]; omega) ?_
      rw [show (!(p ++ y :: q).toArray.isEmpty) = true from by simp]
      k_steps
      refine of_hold ?_
      with_unfolding_all refine' pop_split (p := p) (q := q) (y := y) ?j1 ?j2 ?j3 ?j4 ?j5 ?_
      (case j1 => k_asm)
      (case j2 => k_asm)
      (case j3 => k_updF)
      (case j4 => omega)
      (case j5 => omega)
      intro h3 k3 F3 N3
      (try dsimp only at N3)
      clear F2 N2
      k_steps
      refine of_hold ?_
      with_unfolding_all refine' append_one (ls := os) ?j1 ?j2 ?j3 ?j4 ?_
      (case j1 => k_asm)
      (case j2 => k_asm)
      (case j3 => k_updF)
      (case j4 => omega)
      intro h4 k4 F4 N4
      (try dsimp only at N4)
      clear F3 N3
      have hpl : (p ++ q).length + 1 = (p ++ y :: q).length := by rw [List.length_append, List.length_append, List.length_cons]; omega
      k_steps
      with_reducible rename Fr _ _ _ _ => F5
      with_reducible rename News _ _ _ _ => N5
      rw [map_nn] at F5
      exact ⟨(p ++ q).length, by omega, _, _, p ++ q, os ++ [y], _, _, _, _, rfl, rfl, F5, N5, perm_move hperm⟩)
end Mine
end
section
open PySem PySem.W PyProof.Rows PySem.Calls
set_option maxRecDepth 100000
namespace Mine
section
variable {prog : Program} {w : World} {A A₀ : Around} {s : Shared} {base h₀ : Heap} {outer : List Env} {L : Addr} {m mg mb : Str → Option Value} {env : Env} {K : Frag} {p : Program} {loose : List Str} {mean : ExcName → Option Value}
  {R : Result → Shared → Prop} {name qual : Str} {params : Arguments} {body : List Stmt} {scope : Scope} {dV kV doc pm cdv ct oc : Value} {an od : Option Addr} {osl : Array (Option Value)} {f : Addr} {args : Args} {binds : List (Str × Value)} {news : List (Addr × Obj)}
theorem cells_mem {cm : Str → Option Value} : ∀ {cs : List (Str × Addr)} {cells : List (Addr × Obj)}, CellsAre cm cs cells → ∀ q ∈ cells, ∃ n, (n, q.1) ∈ cs
  | _, _, .nil => fun _ h => nomatch h
  | _, _, .cons h r => fun q hq => by
    rcases List.mem_cons.mp hq with rfl | hq
    · exact ⟨_, .head _⟩
    · obtain ⟨n, hn⟩ := cells_mem r q hq
      exact ⟨n, .tail _ hn⟩
/-- enter a def with everything as its ground but what the ledger `news` names -/
theorem callPG (B : Below A₀ base outer h₀) (F : Fr h₀ L s.heap m) (X₀ : K.In h₀) (T : Top p loose mean mg mb h₀) (hA : A.frames = some (env :: outer)) (hf : env.frame = some L) (hke : env.scope.kind = .function)
    (N : News h₀ L s.heap news)
    (ho : K.lookup f = some ⟨oc, od, .func (fnOf name qual params body scope dV kV doc pm an cdv ct), osl⟩) (hcd : codeIn K cdv qual = true) (hroom : A.depth < recursionLimit)
    (hbind : BindsTo s (fnOf name qual params body scope dV kV doc pm an cdv ct) args binds)
    (hkind : ∀ n, ∀ x ∈ binds, scope.names.lookup x.1 = some .local ∨ (scope.names.lookup x.1 = some .cell ∧ ((cellsFrom n scope.names []).lookup x.1).isSome = true))
    (hnd : ((cellsFrom 0 scope.names []).map (·.1)).Nodup)
    (h : ∀ g L' h₁ tk cells, g = hideAll s.heap (news.map (·.1)) → Fr g L' h₁ (bindL (envOfC qual scope L' f cdv).kindOf binds fun _ => none) → News g L' h₁ (cells ++ news) →
      CellsAre (bindC (envOfC qual scope L' f cdv).kindOf binds fun _ => none) (cellsFrom (L' + 1) scope.names []) cells → Below A base (env :: outer) g → K.In g → Top p loose mean mg mb g → h₀.StaysIn g →
      (∀ q ∈ cells, ∀ r ∈ news, @LT.lt Nat _ r.1 q.1) → (∀ r ∈ news, @LT.lt Nat _ r.1 L') →
      wpAny (model prog w) (A.deeper (envOfC qual scope L' f cdv)) (execs body (envOfC qual scope L' f cdv))
        (fun fl s' => R (.ok (.ret (match fl with | .ret v => v | _ => .none))) s')
        (fun e s' => wpAny (model prog w) (A.deeper (envOfC qual scope L' f cdv)) (leaving (envOfC qual scope L' f cdv) e) (fun _ s'' => R (.error e) s'') (fun e' s'' => R (.error e') s'') s')
        { s with heap := h₁, toks := tk })
    (hco : scope.isCoroutine = false) (hgen : scope.isGenerator = false) (hk : scope.kind = .function) : codeAny (model prog w) A (.call (.ref f) args) R s := by
  have X := X₀.keeps F.keep
  have T' := T.keeps F.keep
  obtain ⟨_, BG, st, _⟩ := groundX (R := R) B F N hA hf hke
  refine codeAny_call_function hroom (X _ _ ho) rfl hco hgen rfl (codeRec_of X hcd) (hbind _ _ _ _ ?_)
  refine wpAny_newFunctionEnv_cells hk (hkind _) fun env' he s' x => ?_
  subst he
  refine ⟨T'.nolimit.keeps x.toInCall.keep, codeAny_func ?_⟩
  obtain ⟨h₁, tk, rfl, _⟩ := x.done
  have hk₁ := x.toInCall.keep
  have hsz : (hideAll s.heap (news.map (·.1))).objs.size = s.heap.objs.size := hideAll_size _ _
  obtain ⟨cells, NC, Y⟩ := Cl.news (h₀ := hideAll s.heap (news.map (·.1))) (L := s.heap.objs.size) (Nat.le_of_eq hsz) fun n c hm => ⟨x.cell n c (lookup_of_mem_nodup (cellsFrom_names scope.names 0 (s.heap.objs.size + 1) [] [] rfl ▸ hnd) hm), x.above n c hm⟩
  have hlt : ∀ r ∈ news, @LT.lt Nat _ r.1 s.heap.objs.size := fun r hr => Heap.lt_size (N r hr).1
  refine h (hideAll s.heap (news.map (·.1))) s.heap.objs.size h₁ tk cells rfl ⟨x.toInCall.ns, fun b o e => hk₁ b o (of_hideAll _ e), Nat.le_of_eq hsz⟩ (fun q hq => ?_) Y BG (Frag.In.keeps (h' := hideAll s.heap (news.map (·.1))) X₀ fun b o e => st b o e) (Top.keeps (h' := hideAll s.heap (news.map (·.1))) T fun b o e => st b o e) st (fun q hq r hr => ?_) hlt
  · rcases List.mem_append.mp hq with hq | hq
    · exact NC q hq
    · exact ⟨hk₁ _ _ (N q hq).1, Nat.ne_of_lt (hlt q hq), hideAll_none _ (List.mem_map_of_mem hq)⟩
  · have h1 := hlt r hr
    obtain ⟨n, hn⟩ := cells_mem Y q hq
    exact Nat.lt_trans h1 (x.above n q.1 hn)
/-- enter a def that makes no cells, with everything as its ground but what the ledger `news` names -/
theorem callPH (B : Below A₀ base outer h₀) (F : Fr h₀ L s.heap m) (X₀ : K.In h₀) (T : Top p loose mean mg mb h₀) (hA : A.frames = some (env :: outer)) (hf : env.frame = some L) (hke : env.scope.kind = .function)
    (N : News h₀ L s.heap news)
    (ho : K.lookup f = some ⟨oc, od, .func (fnOf name qual params body scope dV kV doc pm an cdv ct), osl⟩) (hcd : codeIn K cdv qual = true) (hroom : A.depth < recursionLimit)
    (hbind : BindsTo s (fnOf name qual params body scope dV kV doc pm an cdv ct) args binds) (hloc : ∀ y ∈ binds, scope.names.lookup y.1 = some .local)
    (h : ∀ g L' h₁, g = hideAll s.heap (news.map (·.1)) → Fr g L' h₁ (fun y => binds.reverse.lookup y) → News g L' h₁ news → Below A base (env :: outer) g → K.In g → Top p loose mean mg mb g → h₀.StaysIn g →
      (∀ r ∈ news, @LT.lt Nat _ r.1 L') →
      wpAny (model prog w) (A.deeper (envOf qual scope L' f cdv)) (execs body (envOf qual scope L' f cdv))
        (fun fl s' => R (.ok (.ret (match fl with | .ret v => v | _ => .none))) s')
        (fun e s' => wpAny (model prog w) (A.deeper (envOf qual scope L' f cdv)) (leaving (envOf qual scope L' f cdv) e) (fun _ s'' => R (.error e) s'') (fun e' s'' => R (.error e') s'') s')
        { s with heap := h₁, toks := s.toks + binds.length })
    (hco : scope.isCoroutine = false) (hgen : scope.isGenerator = false) (hk : scope.kind = .function)
    (hcell : ∀ x ∈ scope.names, x.2 ≠ .cell) : codeAny (model prog w) A (.call (.ref f) args) R s := by
  have X := X₀.keeps F.keep
  have T' := T.keeps F.keep
  obtain ⟨_, BG, st, _⟩ := groundX (R := R) B F N hA hf hke
  refine codeAny_call_def (fd := fnOf name qual params body scope dV kV doc pm an cdv ct) (body := body) (binds := binds) hroom (X _ _ ho) rfl T'.nolimit (codeRec_of X hcd) rfl hbind hcell hloc (fun h₁ hns hk₁ => ?_) hco hgen hk
  have hsz : (hideAll s.heap (news.map (·.1))).objs.size = s.heap.objs.size := hideAll_size _ _
  have hlt : ∀ r ∈ news, @LT.lt Nat _ r.1 s.heap.objs.size := fun r hr => Heap.lt_size (N r hr).1
  refine h (hideAll s.heap (news.map (·.1))) s.heap.objs.size h₁ rfl ⟨hns, fun b o e => hk₁ b o (of_hideAll _ e), Nat.le_of_eq hsz⟩ (fun q hq => ?_) BG (Frag.In.keeps (h' := hideAll s.heap (news.map (·.1))) X₀ fun b o e => st b o e) (Top.keeps (h' := hideAll s.heap (news.map (·.1))) T fun b o e => st b o e) st hlt
  exact ⟨hk₁ _ _ (N q hq).1, Nat.ne_of_lt (hlt q hq), hideAll_none _ (List.mem_map_of_mem hq)⟩
end
end Mine
end
section
open PySem PySem.W PyProof.Rows PySem.Calls
set_option maxRecDepth 100000
set_option maxHeartbeats 0
namespace Mine
open PySem.Builtin PySem.Builtin.ObjectAttr
theorem slot_fn_sa : Slot "function" "__setattr__" "object.__setattr__" :=
  .of (owner := "object") (n := "__setattr__") (by rw [typeLookup_type, builtinLookup_eq_fast]; kernel_rfl) (by decide +kernel) (by decide +kernel) (by decide +kernel)
    (by first | exact .inl (by decide +kernel) | exact .inr (by decide +kernel)) (by rw [isSubtype_type]; kernel_rfl)
theorem fn_no_applies : typeLookup (.type "function") "applies_to" = pure none := by rw [typeLookup_type, builtinLookup_eq_fast]; kernel_rfl
theorem fn_no_allowance : typeLookup (.type "function") "allowance" = pure none := by rw [typeLookup_type, builtinLookup_eq_fast]; kernel_rfl
theorem entry_osa : entryFor table "object.__setattr__" = some Builtin.«object.__setattr__» := entryFor_of_tree (by kernel_rfl)
theorem args_osa (a b c : Value) : argsOk "object.__setattr__" ⟨[a, b, c], []⟩ := by unfold argsOk; kernel_rfl
theorem fn_hasDict : typeHasDict (.type "function") = true := by kernel_rfl
theorem fn_final : finalisedInACycleAlone "function" = false := by first | decide +kernel | kernel_rfl
theorem fn_refuse (self : Value) : (mroOf (.type "function") >>= fun l => refuseLoop self "__setattr__" l) = pure () := by
  first | rfl | kernel_rfl | (unfold refuseLoop; rfl)
def NsO (o : Obj) (m : Str → Option Value) : Prop := ∃ es ep, o.data = .dict es ep ∧ StrKeys es ∧ UniqKeys es ∧ ∀ name, nsFind es name = m name
theorem NsO.at {o : Obj} {m : Str → Option Value} {h : Heap} {a : Addr} (x : NsO o m) (e : h.get? a = some o) : h.Ns1 a m := let ⟨es, ep, r⟩ := x; ⟨o, es, ep, e, r⟩
theorem nsO_of {h : Heap} {a : Addr} {m : Str → Option Value} (x : h.Ns1 a m) : ∃ o, h.get? a = some o ∧ NsO o m := let ⟨o, es, ep, e, r⟩ := x; ⟨o, e, es, ep, r⟩
section
variable {prog : Program} {w : World} {A : Around} {E : Value → Shared → Prop} {h : Heap} {g : Array GenState} {d : Drawn} {t : Nat} {os : OsState} {x : Addr} {o : Obj} {name : Str} {v : Value} {mA : Str → Option Value}
theorem fn_store0 {tk : Tok} {Q : Fin → Shared → Prop} (hx : h.get? x = some o) (hc : o.cls = .type "function") (hnc : ∀ c, o.data ≠ .cls c) (hB : typeLookup (.type "function") name = pure none) (hdn : o.dict = none)
    (hq : ∀ h' tk' oD, NsO oD (fun y => if y = name then some v else none) → h'.get? x = some { o with dict := some h.objs.size } → h'.get? h.objs.size = some oD → (∀ b ob, b ≠ x → h.get? b = some ob → h'.get? b = some ob) → Q (.done (.ret .none)) ⟨h', g, d, tk', os⟩) :
    wpAny (model prog w) A (Builtin.«object.__setattr__» ⟨[.ref x, .str name tk, v], []⟩) Q E ⟨h, g, d, t, os⟩ := by
  have hT : ∀ tk', (⟨h, g, d, tk', os⟩ : Shared).TypeIs (.ref x) "function" := fun _ => ⟨_, hx, hc⟩
  unfold Builtin.«object.__setattr__»
  have hr : ∀ {M : Model} {Q : Unit → Shared → Prop} {tk' : Nat}, Q () ⟨h, g, d, tk', os⟩ → wpAny M A (refuseIfOverridden (.ref x) "__setattr__") Q E ⟨h, g, d, tk', os⟩ := fun hq => by
    rw [refuse_eq]
    refine wpAny_bind (wpAny_typeOf (hT _) (wpAny_of_eq (a := ()) (fn_refuse _) hq))
  have hT' := hT
  refine wpAny_bind (hr ?_)
  repeat (any_goals (first | assumption | exact hT _ | wp_step))
  rw [hc]
  refine wpAny_of_eq hB ?_
  repeat (any_goals (first | assumption | exact hT _ | wp_step))
  rw [hc, hdn]
  dsimp only
  rw [if_neg (show ¬ (!true || !typeHasDict (.type "function")) = true from by rw [fn_hasDict]; decide)]
  split
  · rename_i c hcd
    exact absurd hcd (hnc c)
  · have hx₁ : (h.push { cls := .type "dict", data := .dict #[] }).get? x = some o := Heap.get?_push_of_some _ hx
    have hxs : x ≠ h.objs.size := Nat.ne_of_lt (Heap.lt_size hx)
    refine wpAny_bind (wpAny_alloc' ?_)
    refine wpAny_bind (wpAny_update' hx₁ ?_)
    unfold dictMade
    dsimp only
    rw [if_neg (show ¬ finalisedInACycleAlone "function" = true from by rw [fn_final]; decide)]
    refine wpAny_pure ?_
    have hgd : ((h.push { cls := .type "dict", data := .dict #[] }).update x fun o => { cls := o.cls, dict := some h.objs.size, data := o.data, slots := o.slots }).get? h.objs.size
        = some { cls := .type "dict", data := .dict #[] } :=
      (Heap.get?_update_ne _ _ _ _ hxs.symm).trans (Heap.get?_push_at rfl rfl)
    have hnd : ((h.push { cls := .type "dict", data := .dict #[] }).update x fun o => { cls := o.cls, dict := some h.objs.size, data := o.data, slots := o.slots }).Ns h.objs.size (fun _ => none) :=
      ⟨_, #[], _, hgd, rfl, fun e he => absurd he (by simp), fun _ => rfl⟩
    show wpAny _ _ (storeInDict h.objs.size (.str name tk) name v) _ _ _
    unfold storeInDict newKeyGuard
    refine wpAny_bind (wpAny_pure (wpAny_bind (wpAny_nsSet1 (Heap.Ns1.of_empty hnd) fun h' hn' hs => ?_)))
    obtain ⟨oD, esD, epD, hoD, hdD, hcD⟩ := hn'.count (Within.cons name v Within.nil)
    refine wpAny_bind (wpAny_lookBehind hoD (by rw [hdD]; exact pastItsLine_dict (Nat.le_trans hcD (by rw [List.length_cons, List.length_nil, sizeLine_eq]; omega))) ?_)
    wp_walk
    have hx' : h'.get? x = some { cls := o.cls, dict := some h.objs.size, data := o.data, slots := o.slots } := by
      refine (hs.2 x hxs).trans (Heap.get?_update_self _ hx₁ ?_)
      have hfr := (Heap.get?_some_iff.mp hx).2
      obtain ⟨oc, od, odt, osl⟩ := o
      cases odt <;> first | rfl | exact hfr
    obtain ⟨oD', hoD', hND⟩ := nsO_of hn'
    refine hq h' _ oD' hND hx' hoD' fun b ob hbx hb => ?_
    exact (hs.2 b (Nat.ne_of_lt (Heap.lt_size hb))).trans ((Heap.get?_update_ne _ _ _ _ hbx).trans (Heap.get?_push_of_some _ hb))
theorem fn_store1 {tk : Tok} {Q : Fin → Shared → Prop} {dx : Addr} {ns : List Str} (hx : h.get? x = some o) (hc : o.cls = .type "function") (hB : typeLookup (.type "function") name = pure none) (hdx : o.dict = some dx) (hns : h.Ns1 dx mA) (hw : Within mA ns) (hsz : ns.length ≤ 1000)
    (hq : ∀ h' tk' oD, NsO oD (fun y => if y = name then some v else mA y) → h'.get? dx = some oD → (∀ b ob, b ≠ dx → h.get? b = some ob → h'.get? b = some ob) → Heap.SameBut dx h h' → Q (.done (.ret .none)) ⟨h', g, d, tk', os⟩) :
    wpAny (model prog w) A (Builtin.«object.__setattr__» ⟨[.ref x, .str name tk, v], []⟩) Q E ⟨h, g, d, t, os⟩ := by
  have hT : ∀ tk', (⟨h, g, d, tk', os⟩ : Shared).TypeIs (.ref x) "function" := fun _ => ⟨_, hx, hc⟩
  unfold Builtin.«object.__setattr__»
  have hr : ∀ {M : Model} {Q : Unit → Shared → Prop} {tk' : Nat}, Q () ⟨h, g, d, tk', os⟩ → wpAny M A (refuseIfOverridden (.ref x) "__setattr__") Q E ⟨h, g, d, tk', os⟩ := fun hq => by
    rw [refuse_eq]
    refine wpAny_bind (wpAny_typeOf (hT _) (wpAny_of_eq (a := ()) (fn_refuse _) hq))
  refine wpAny_bind (hr ?_)
  repeat (any_goals (first | assumption | exact hT _ | wp_step))
  rw [hc]
  refine wpAny_of_eq hB ?_
  repeat (any_goals (first | assumption | exact hT _ | wp_step))
  rw [hc, hdx]
  dsimp only
  refine wpAny_pure ?_
  show wpAny _ _ (storeInDict dx (.str name tk) name v) _ _ _
  unfold storeInDict newKeyGuard
  refine wpAny_bind (wpAny_pure (wpAny_bind (wpAny_nsSet1 hns fun h' hn' hs => ?_)))
  obtain ⟨oD, esD, epD, hoD, hdD, hcD⟩ := hn'.count (Within.cons name v hw)
  refine wpAny_bind (wpAny_lookBehind hoD (by rw [hdD]; exact pastItsLine_dict (Nat.le_trans hcD (by rw [List.length_cons, sizeLine_eq]; omega))) ?_)
  wp_walk
  obtain ⟨oD', hoD', hND⟩ := nsO_of hn'
  exact hq h' _ oD' hND hoD' (fun b ob hb e => hs.extBut b ob hb e) hs
theorem fn_set {Q : Unit → Shared → Prop} (hT : ∀ tk', (⟨h, g, d, tk', os⟩ : Shared).TypeIs (.ref x) "function")
    (hq : ∀ tk t', wpAny (model prog w) A.in1 (Builtin.«object.__setattr__» ⟨[.ref x, .str name tk, v], []⟩) (fun f s' => f = .done (.ret .none) ∧ Q () s') E ⟨h, g, d, t', os⟩) :
    wpAny (model prog w) A (setAttr (.ref x) name v) Q E ⟨h, g, d, t, os⟩ := by
  unfold setAttr
  refine wpAny_bind (wpAny_mkText ?_)
  refine wpAny_bind (wpAny_callSpecial?_slot (name := Str.ofString "__setattr__") (hT _) slot_fn_sa (wpAny_call_entry slot_fn_sa (hT _) entry_osa ?_ (args_osa _ _ _)))
  refine wpAny_mono (hq _ _) (fun f s' hf => ?_) fun _ _ e => e
  obtain ⟨rfl, hq'⟩ := hf
  exact ⟨_, rfl, wpAny_pure hq'⟩
end
abbrev fnO (fd : FuncData) (dct : Option Addr) : Obj := { cls := .type "function", dict := dct, data := .func fd, slots := #[] }
section
variable {prog : Program} {w : World} {A : Around} {E : Value → Shared → Prop} {s : Shared} {h₀ : Heap} {L f : Addr} {m : Str → Option Value} {news : List (Addr × Obj)} {gg : Obj → List (Addr × Obj)} {Q : Unit → Shared → Prop} {fd : FuncData} {name : Str} {v : Value} {mA : Str → Option Value}
theorem setFn0 (F : Fr h₀ L s.heap m) (N : News h₀ L s.heap news) (U : UpdF f (fnO fd none) news gg) (hB : typeLookup (.type "function") name = pure none)
    (hq : ∀ d oD h' tk', Fr h₀ L h' m → News h₀ L h' ((d, oD) :: gg (fnO fd (some d))) → NsO oD (fun y => if y = name then some v else none) → (∀ p ∈ news, p.1 < d) → Q () { s with heap := h', toks := tk' }) :
    wpAny (model prog w) A (setAttr (.ref f) name v) Q E s := by
  obtain ⟨h, g, d, t, os⟩ := s
  obtain ⟨pre, post, hls, hg, a, c⟩ := U.split
  have hm := N (f, fnO fd none) (by rw [hls]; exact List.mem_append_right _ (.head _))
  refine fn_set (fun _ => ⟨_, hm.1, rfl⟩) fun tk t' => fn_store0 hm.1 rfl (fun c e => nomatch e) hB rfl fun h' tk' oD hND hx hd hk => ⟨rfl, ?_⟩
  have hLf : L ≠ f := Ne.symm hm.2.1
  have hsz0 : h₀.get? h.objs.size = none := by
    cases e : h₀.get? h.objs.size with
    | none => rfl
    | some o => exact absurd (Heap.lt_size (F.keep _ _ e)) (Nat.lt_irrefl _)
  refine hq h.objs.size oD h' tk' ⟨F.ns.at' fun o e => hk _ o hLf e, fun b o e => hk b o (fun q => by rw [q, hm.2.2] at e; cases e) (F.keep b o e), F.above⟩ (fun p hp => ?_) hND fun p hp => Heap.lt_size (N p hp).1
  rcases List.mem_cons.mp hp with rfl | hp
  · exact ⟨hd, fun e => absurd F.ns.lt (by rw [← e]; exact Nat.lt_irrefl _), hsz0⟩
  · rw [hg] at hp
    rcases List.mem_append.mp hp with hp | hp
    · have P := N p (by rw [hls]; exact List.mem_append_left _ hp)
      exact ⟨hk _ _ (a p hp) P.1, P.2⟩
    · rcases List.mem_cons.mp hp with rfl | hp
      · exact ⟨hx, hm.2⟩
      · have P := N p (by rw [hls]; exact List.mem_append_right _ (.tail _ hp))
        exact ⟨hk _ _ (c p hp) P.1, P.2⟩
theorem setFn1 {d : Addr} {oD : Obj} {ns : List Str} (F : Fr h₀ L s.heap m) (N : News h₀ L s.heap news) (hf : (f, fnO fd (some d)) ∈ news) (U : UpdF d oD news gg) (hB : typeLookup (.type "function") name = pure none) (hD : NsO oD mA) (hw : Within mA ns) (hsz : ns.length ≤ 1000)
    (hq : ∀ oD' h' tk', Fr h₀ L h' m → News h₀ L h' (gg oD') → NsO oD' (fun y => if y = name then some v else mA y) → Q () { s with heap := h', toks := tk' }) :
    wpAny (model prog w) A (setAttr (.ref f) name v) Q E s := by
  obtain ⟨h, g, dr, t, os⟩ := s
  obtain ⟨pre, post, hls, hg, a, c⟩ := U.split
  have hm := N (d, oD) (by rw [hls]; exact List.mem_append_right _ (.head _))
  have hmf := N _ hf
  refine fn_set (fun _ => ⟨_, hmf.1, rfl⟩) fun tk t' => fn_store1 hmf.1 rfl hB rfl (hD.at hm.1) hw hsz fun h' tk' oD' hND hd hk _ => ⟨rfl, ?_⟩
  refine hq oD' h' tk' ⟨F.ns.at' fun o e => hk _ o (Ne.symm hm.2.1) e, fun b o e => hk b o (fun q => by rw [q, hm.2.2] at e; cases e) (F.keep b o e), F.above⟩ (fun p hp => ?_) hND
  rw [hg] at hp
  rcases List.mem_append.mp hp with hp | hp
  · have P := N p (by rw [hls]; exact List.mem_append_left _ hp)
    exact ⟨hk _ _ (a p hp) P.1, P.2⟩
  · rcases List.mem_cons.mp hp with rfl | hp
    · exact ⟨hd, hm.2⟩
    · have P := N p (by rw [hls]; exact List.mem_append_right _ (.tail _ hp))
      exact ⟨hk _ _ (c p hp) P.1, P.2⟩
end
end Mine
end
section
open PySem PySem.W PyProof.Rows PySem.Calls
set_option maxRecDepth 100000
set_option maxHeartbeats 0
namespace Mine
def nthS : Nat → List Stmt → List Stmt
  | 0, l => l
  | n + 1, _ :: r => nthS n r
  | _ + 1, [] => []
def defBody : List Stmt → List Stmt
  | .FunctionDef _ _ b _ _ _ _ _ _ _ :: _ => b
  | _ => []
def lamOf : List Stmt → Option (Arguments × Expr × Scope)
  | .Assign _ (.Lambda ps b sc _) _ :: _ => some (ps, b, sc)
  | _ => none
/-- the lambda that a rule keeps under applies_to -/
def theLam : Option (Arguments × Expr × Scope) := lamOf (nthS 1 (defBody (nthS 9 Challenge.rw_ij0195_02.row.prog.main.body)))
def lamQual : Str := Str.ofString "_law_rule.<locals>.<lambda>"
/-- what stands in a heap -/
def AllIn (led : List (Addr × Obj)) (h : Heap) : Prop := ∀ p ∈ led, h.get? p.1 = some p.2
theorem AllIn.keeps {led : List (Addr × Obj)} {h h' : Heap} (x : AllIn led h) (k : ∀ b o, h.get? b = some o → h'.get? b = some o) : AllIn led h' := fun p hp => k _ _ (x p hp)
/-- a rule: a function with two attributes; applies_to is a lambda over two cells -/
inductive RuleAt (c2 : Addr) (h : Heap) (r : Addr) (x : Str) (reach : Int) (v : Str) : Prop
  | mk (ps : Arguments) (b : Expr) (sc : Scope) (fd : FuncData) (d f2 cx cr : Addr) (oD ox orr : Obj) (tv tx tr : Tok) (pm ctv : Value) (q1 : theLam = some (ps, b, sc)) (q2 : h.get? r = some (fnO fd (some d))) (q3 : h.get? d = some oD) (q4 : NsO oD (fun y => if y = Str.ofString "allowance" then some (.str v tv) else if y = Str.ofString "applies_to" then some (.ref f2) else none)) (q5 : h.get? f2 = some (kla_obj (Str.ofString "<lambda>") lamQual ps b sc [(Str.ofString "x", cx), (Str.ofString "reach", cr)] pm c2 ctv)) (q6 : h.get? cx = some ox) (q7 : ox.data = .cell (some (.str x tx))) (q8 : h.get? cr = some orr) (q9 : orr.data = .cell (some (.int reach tr))) : RuleAt c2 h r x reach v
def RuleL (c2 : Addr) (led : List (Addr × Obj)) (r : Addr) (x : Str) (reach : Int) (v : Str) : Prop := ∀ h, AllIn led h → RuleAt c2 h r x reach v
/-- the table of the codes made within _law_rule -/
def CodeO (oc : Obj) : Prop := ∃ vs t, oc.data = .fields vs ∧ vs[1]? = some (.str lamQual t)
abbrev fullT (c1 c2 : Addr) : Array Value := #[] ++ #[rawInt ((86 : Nat) : Int), rawInt ((11 : Nat) : Int), .ref c1] ++ #[rawInt ((87 : Nat) : Int), rawInt ((22 : Nat) : Int), .ref c2]
theorem fresh_hid {g h : Heap} {P b : Addr} (hg : g = hideAll h [P]) (e : g.get? b = none) (hb : @Ne Nat b P) : h.get? b = none := by
  cases q : h.get? b with
  | none => rfl
  | some o =>
    have := hideAll_get [P] q (fun hm => hb (List.mem_singleton.mp hm))
    rw [← hg, e] at this; cases this
theorem keep_hid {g h h' : Heap} {P b : Addr} {o : Obj} (hg : g = hideAll h [P]) (k : ∀ b o, g.get? b = some o → h'.get? b = some o) (hb : @Ne Nat b P) (e : h.get? b = some o) : h'.get? b = some o :=
  k b o (by rw [hg]; exact hideAll_get [P] e fun hm => hb (List.mem_singleton.mp hm))
theorem rule_fin {g hs h4 : Heap} {L' d f2 c2 f1 c1 cr cx : Addr} {oD o2 oc2 o1 oc1 orr ox oT : Obj} (hg : g = hideAll hs [114]) (keep : ∀ b o, g.get? b = some o → h4.get? b = some o)
    (N : News g L' h4 [(d, oD), (f2, o2), (c2, oc2), (f1, o1), (c1, oc1), (cr, orr), (cx, ox), (114, oT)]) (n1 : @Ne Nat d 114) (n2 : @Ne Nat f2 114) (n3 : @Ne Nat c2 114) (n4 : @Ne Nat f1 114) (n5 : @Ne Nat c1 114) (n6 : @Ne Nat cr 114) (n7 : @Ne Nat cx 114) :
    (∀ p ∈ [(d, oD), (f2, o2), (f1, o1), (cr, orr), (cx, ox)], h4.get? p.1 = some p.2 ∧ hs.get? p.1 = none) ∧ (h4.get? c1 = some oc1 ∧ hs.get? c1 = none) ∧ (h4.get? c2 = some oc2 ∧ hs.get? c2 = none) ∧ h4.get? 114 = some oT ∧ (∀ b o, @Ne Nat b 114 → hs.get? b = some o → h4.get? b = some o) := by
  have one : ∀ p, p ∈ [(d, oD), (f2, o2), (c2, oc2), (f1, o1), (c1, oc1), (cr, orr), (cx, ox), (114, oT)] → @Ne Nat p.1 114 → h4.get? p.1 = some p.2 ∧ hs.get? p.1 = none := fun p hp hn => ⟨(N p hp).1, fresh_hid hg (N p hp).2.2 hn⟩
  refine ⟨fun p hp => ?_, one (c1, oc1) (by simp) n5, one (c2, oc2) (by simp) n3, (N (114, oT) (by simp)).1, fun b o hb e => keep_hid hg keep hb e⟩
  simp only [List.mem_cons, List.not_mem_nil, or_false] at hp
  rcases hp with rfl | rfl | rfl | rfl | rfl
  · exact one _ (by simp) n1
  · exact one _ (by simp) n2
  · exact one _ (by simp) n4
  · exact one _ (by simp) n6
  · exact one _ (by simp) n7
theorem rule_l {d f2 c2 f1 cr cx : Addr} {oD orr ox : Obj} {fd : FuncData} {ps : Arguments} {b : Expr} {sc : Scope} {pm ctv : Value} {x v : Str} {r : Int} {tv tx tr : Tok} (hl : theLam = some (ps, b, sc)) (hD : NsO oD (fun y => if y = Str.ofString "allowance" then some (.str v tv) else if y = Str.ofString "applies_to" then some (.ref f2) else none))
    (hx : ox.data = .cell (some (.str x tx))) (hr : orr.data = .cell (some (.int r tr))) :
    RuleL c2 [(d, oD), (f2, kla_obj (Str.ofString "<lambda>") lamQual ps b sc [(Str.ofString "x", cx), (Str.ofString "reach", cr)] pm c2 ctv), (f1, fnO fd (some d)), (cr, orr), (cx, ox)] f1 x r v := fun h hA =>
  ⟨ps, b, sc, fd, d, f2, cx, cr, oD, ox, orr, tv, tx, tr, pm, ctv, hl, hA (f1, _) (by simp), hA (d, _) (by simp), hD, hA (f2, _) (by simp), hA (cx, _) (by simp), hx, hA (cr, _) (by simp), hr⟩
theorem rule_fin1 {g hs h4 : Heap} {L' d f2 f1 cr cx : Addr} {oD o2 o1 orr ox oT : Obj} (hg : g = hideAll hs [114]) (keep : ∀ b o, g.get? b = some o → h4.get? b = some o)
    (N : News g L' h4 [(d, oD), (f2, o2), (f1, o1), (cr, orr), (cx, ox), (114, oT)]) (n1 : @Ne Nat d 114) (n2 : @Ne Nat f2 114) (n4 : @Ne Nat f1 114) (n6 : @Ne Nat cr 114) (n7 : @Ne Nat cx 114) :
    (∀ p ∈ [(d, oD), (f2, o2), (f1, o1), (cr, orr), (cx, ox)], h4.get? p.1 = some p.2 ∧ hs.get? p.1 = none) ∧ h4.get? 114 = some oT ∧ (∀ b o, @Ne Nat b 114 → hs.get? b = some o → h4.get? b = some o) := by
  have one : ∀ p, p ∈ [(d, oD), (f2, o2), (f1, o1), (cr, orr), (cx, ox), (114, oT)] → @Ne Nat p.1 114 → h4.get? p.1 = some p.2 ∧ hs.get? p.1 = none := fun p hp hn => ⟨(N p hp).1, fresh_hid hg (N p hp).2.2 hn⟩
  refine ⟨fun p hp => ?_, (N (114, oT) (by simp)).1, fun b o hb e => keep_hid hg keep hb e⟩
  simp only [List.mem_cons, List.not_mem_nil, or_false] at hp
  rcases hp with rfl | rfl | rfl | rfl | rfl
  · exact one _ (by simp) n1
  · exact one _ (by simp) n2
  · exact one _ (by simp) n4
  · exact one _ (by simp) n6
  · exact one _ (by simp) n7
end Mine
end
section
open PySem PySem.W PyProof.Rows PySem.Calls
set_option maxRecDepth 100000
set_option maxHeartbeats 0
namespace Mine
local macro_rules | `(tactic| k_room) => `(tactic| ktr_room)
local macro_rules | `(tactic| walk_at "setAttr ref") => `(tactic| (k_here; refine hold_ ?_))
theorem rule_0 {w : World} {loose : List Str} {mean : ExcName → Option Value} {mg mb : Str → Option Value}
  {dp un : Nat} {gd : Option (List Code)} {cn : Str} {cs : Scope} {a : Addr} {ccd : Value} {cl : List (Str × Addr)} {outer : List Env} {A₀ : Around} {base h₀ : Heap} {L : Addr} {m : Str → Option Value} {s : Shared} {Q E : Value → Shared → Prop}
  {x v : Str} {r : Int} {tx tr tv : Tok}
  (B : Below A₀ base outer h₀) (F : Fr h₀ L s.heap m) (X : (hd.heap_39 w.params).In h₀) (T : Top topProg loose mean mg mb h₀) (hk : cs.kind = .function) (hdp : dp + 16 < recursionLimit) (hun : un + 128 < cLine)
  (C : CodeHd h₀ 118 114) (N : News h₀ L s.heap [(114, tabObj #[])])
  (hret : ∀ (D c1 c2 : Addr) (oc1 oc2 : Obj) (led : List (Addr × Obj)) (h' : Heap) (tk' : Nat), CodeO oc2 → RuleL c2 led D x r v → (∀ p ∈ led, h'.get? p.1 = some p.2 ∧ s.heap.get? p.1 = none) → (h'.get? c1 = some oc1 ∧ s.heap.get? c1 = none) → (h'.get? c2 = some oc2 ∧ s.heap.get? c2 = none) →
    h'.get? 114 = some (tabObj (fullT c1 c2)) → (∀ b o, @Ne Nat b 114 → s.heap.get? b = some o → h'.get? b = some o) → Q (.ref D) { s with heap := h', toks := tk' }) :
  wpAny (model Challenge.rw_ij0195_02.row.prog w) (ktrTop dp un gd cn cs L a ccd cl outer) (call (.ref 119) [.str x tx, .int r tr, .str v tv]) Q E s := by
  w_strict (
    (revert X; k_fill; intro X)
    refine wpAny_call ?_
    refine' callPG ?k1 ?k2 ?k3 ?k5 ?kA ?kF ?kK ?kN ?k6 ?k7 ?k8 ?k9 ?kB ?kD ?_ ?c2 ?c3 ?c4
    (case kA => exact rfl); (case kF => exact rfl); (case kK => assumption); (case kN => exact N); (case k1 => k_asm); (case k2 => k_asm); (case k3 => k_asm); (case k5 => k_asm); (case k6 => k_is); (case k7 => k_is); (case k8 => ktr_room); (case k9 => exact BindsTo.of_eq rfl); (case kB => exact kindsX rfl); (case kD => decide +kernel); (case c2 => exact rfl); (case c3 => exact rfl); (case c4 => exact rfl)
    k_whole
    intro g L' h' tk' cells' hg F' N' Y' B' X' T' st' lc ll
    have C' := C.keeps (h' := g) fun b o e => st' b o e
    k_cells Y'
    (try simp only [List.cons_append, List.nil_append] at N')
    (try simp only [List.mem_cons, List.not_mem_nil, or_false, forall_eq_or_imp, forall_eq] at lc ll)
    clear N F
    (try dsimp only)
    (try k_lift B')
    (try k_fold)
    k_steps
    refine of_hold ?_
    with_reducible rename Fr _ _ _ _ => F1
    with_reducible rename News _ _ _ _ => N1
    refine' setFn0 ?j1 ?j2 ?j3 ?j4 ?_
    (case j1 => exact F1)
    (case j2 => exact N1)
    (case j3 => k_updF)
    (case j4 => exact fn_no_applies)
    intro d oD h3 tk3 F3 N3 hoD l3
    (try dsimp only at N3)
    k_lt l3
    clear F1 N1
    k_steps
    refine of_hold ?_
    refine' setFn1 ?j1 ?j2 ?j3 ?j4 ?j5 hoD (Within.cons _ _ Within.nil) ?j6 ?_
    (case j1 => k_asm)
    (case j2 => k_asm)
    (case j3 => k_mem)
    (case j4 => k_updF)
    (case j5 => exact fn_no_allowance)
    (case j6 => exact (by omega : 1 ≤ 1000))
    intro oD2 h4 tk4 F4 N4 hoD2
    (try dsimp only at N4)
    clear F3 N3
    k_steps
    dsimp only
    k_steps
    have fin := rule_fin hg F4.keep N4 (by omega) (by omega) (by omega) (by omega) (by omega) (by omega) (by omega)
    obtain ⟨r1, r2, r3, r4, r5⟩ := fin
    refine hret _ _ _ _ _ _ h4 _ ?rc ?rl r1 r2 r3 r4 r5
    (case rc => with_unfolding_all exact ⟨_, _, by assumption, by assumption⟩)
    (case rl => with_unfolding_all exact rule_l rfl hoD2 (by assumption) (by assumption)))
theorem rule_1 {w : World} {loose : List Str} {mean : ExcName → Option Value} {mg mb : Str → Option Value}
  {dp un : Nat} {gd : Option (List Code)} {cn : Str} {cs : Scope} {a : Addr} {ccd : Value} {cl : List (Str × Addr)} {outer : List Env} {A₀ : Around} {base h₀ : Heap} {L : Addr} {m : Str → Option Value} {s : Shared} {Q E : Value → Shared → Prop}
  {x v : Str} {r : Int} {c1 c2 : Addr} {tx tr tv : Tok}
  (B : Below A₀ base outer h₀) (F : Fr h₀ L s.heap m) (X : (hd.heap_39 w.params).In h₀) (T : Top topProg loose mean mg mb h₀) (hk : cs.kind = .function) (hdp : dp + 16 < recursionLimit) (hun : un + 128 < cLine)
  (C : CodeHd h₀ 118 114) (N : News h₀ L s.heap [(114, tabObj (fullT c1 c2))])
  (hret : ∀ (D : Addr) (led : List (Addr × Obj)) (h' : Heap) (tk' : Nat), RuleL c2 led D x r v → (∀ p ∈ led, h'.get? p.1 = some p.2 ∧ s.heap.get? p.1 = none) →
    h'.get? 114 = some (tabObj (fullT c1 c2)) → (∀ b o, @Ne Nat b 114 → s.heap.get? b = some o → h'.get? b = some o) → Q (.ref D) { s with heap := h', toks := tk' }) :
  wpAny (model Challenge.rw_ij0195_02.row.prog w) (ktrTop dp un gd cn cs L a ccd cl outer) (call (.ref 119) [.str x tx, .int r tr, .str v tv]) Q E s := by
  w_strict (
    (revert X; k_fill; intro X)
    refine wpAny_call ?_
    refine' callPG ?k1 ?k2 ?k3 ?k5 ?kA ?kF ?kK ?kN ?k6 ?k7 ?k8 ?k9 ?kB ?kD ?_ ?c2 ?c3 ?c4
    (case kA => exact rfl); (case kF => exact rfl); (case kK => assumption); (case kN => exact N); (case k1 => k_asm); (case k2 => k_asm); (case k3 => k_asm); (case k5 => k_asm); (case k6 => k_is); (case k7 => k_is); (case k8 => ktr_room); (case k9 => exact BindsTo.of_eq rfl); (case kB => exact kindsX rfl); (case kD => decide +kernel); (case c2 => exact rfl); (case c3 => exact rfl); (case c4 => exact rfl)
    k_whole
    intro g L' h' tk' cells' hg F' N' Y' B' X' T' st' lc ll
    have C' := C.keeps (h' := g) fun b o e => st' b o e
    k_cells Y'
    (try simp only [List.cons_append, List.nil_append] at N')
    (try simp only [List.mem_cons, List.not_mem_nil, or_false, forall_eq_or_imp, forall_eq] at lc ll)
    clear N F
    (try dsimp only)
    (try k_lift B')
    (try k_fold)
    k_steps
    refine of_hold ?_
    with_reducible rename Fr _ _ _ _ => F1
    with_reducible rename News _ _ _ _ => N1
    refine' setFn0 ?j1 ?j2 ?j3 ?j4 ?_
    (case j1 => exact F1)
    (case j2 => exact N1)
    (case j3 => k_updF)
    (case j4 => exact fn_no_applies)
    intro d oD h3 tk3 F3 N3 hoD l3
    (try dsimp only at N3)
    k_lt l3
    clear F1 N1
    k_steps
    refine of_hold ?_
    refine' setFn1 ?j1 ?j2 ?j3 ?j4 ?j5 hoD (Within.cons _ _ Within.nil) ?j6 ?_
    (case j1 => k_asm)
    (case j2 => k_asm)
    (case j3 => k_mem)
    (case j4 => k_updF)
    (case j5 => exact fn_no_allowance)
    (case j6 => exact (by omega : 1 ≤ 1000))
    intro oD2 h4 tk4 F4 N4 hoD2
    (try dsimp only at N4)
    clear F3 N3
    k_steps
    dsimp only
    k_steps
    have fin := rule_fin1 hg F4.keep N4 (by omega) (by omega) (by omega) (by omega) (by omega)
    obtain ⟨r1, r4, r5⟩ := fin
    refine hret _ _ h4 _ ?rl r1 r4 r5
    (case rl => with_unfolding_all exact rule_l rfl hoD2 (by assumption) (by assumption)))
end Mine
end
section
open PySem PySem.W PyProof.Rows PySem.Calls
set_option maxRecDepth 100000
set_option maxHeartbeats 0
namespace Mine
/-- the end of a ledger, of which nothing but its growth is told -/
inductive Tl (P : Addr) (t : List (Addr × Obj)) : List (Addr × Obj) → (List (Addr × Obj) → List (Addr × Obj)) → Prop
  | nil : Tl P t t (fun t' => t')
  | cons {p r g} : @Ne Nat p.1 P → Tl P t r g → Tl P t (p :: r) (fun t' => p :: g t')
theorem Tl.split {P : Addr} {t : List (Addr × Obj)} : ∀ {r : List (Addr × Obj)} {g : List (Addr × Obj) → List (Addr × Obj)}, Tl P t r g → ∃ pre, r = pre ++ t ∧ (∀ t', g t' = pre ++ t') ∧ ∀ p ∈ pre, @Ne Nat p.1 P
  | _, _, .nil => ⟨[], rfl, fun _ => rfl, fun _ h => nomatch h⟩
  | _, _, .cons (p := p) h r => by
    obtain ⟨pre, e, e2, hn⟩ := r.split
    refine ⟨p :: pre, by rw [e]; rfl, fun t' => by show p :: _ = _; rw [e2]; rfl, fun q hq => ?_⟩
    rcases List.mem_cons.mp hq with rfl | hq
    · exact h
    · exact hn q hq
/-- what stands in a heap, but for the table of _law_rule's codes -/
def AllBut (t : List (Addr × Obj)) (h : Heap) : Prop := ∀ p ∈ t, @Ne Nat p.1 114 → h.get? p.1 = some p.2
def Codes (sup : List (Addr × Obj)) (o : Obj) : Prop := o = tabObj #[] ∨ ∃ c1 c2 oc2, o = tabObj (fullT c1 c2) ∧ (c2, oc2) ∈ sup ∧ @Ne Nat c2 114 ∧ CodeO oc2
/-- the blob: the table, with its codes, and all that was made -/
def Tab (sup t : List (Addr × Obj)) : Prop := ∃ o, (114, o) ∈ t ∧ Codes (sup ++ t) o
def Grow (t t' : List (Addr × Obj)) : Prop := ∀ p ∈ t, @Ne Nat p.1 114 → p ∈ t'
theorem Grow.refl {t : List (Addr × Obj)} : Grow t t := fun _ h _ => h
theorem Grow.trans {a b c : List (Addr × Obj)} (x : Grow a b) (y : Grow b c) : Grow a c := fun p hp hn => y p (x p hp hn) hn
theorem Grow.sup {a b s : List (Addr × Obj)} (x : Grow a b) : Grow (s ++ a) (s ++ b) := fun p hp hn => (List.mem_append.mp hp).elim (List.mem_append_left _) fun h => List.mem_append_right _ (x p h hn)
theorem AllBut.grow {t t' : List (Addr × Obj)} {h : Heap} (x : AllBut t' h) (g : Grow t t') : AllBut t h := fun p hp hn => x p (g p hp hn) hn
/-- a rule with the code of its lambda -/
def RuleH (h : Heap) (r : Addr) (x : Str) (reach : Int) (v : Str) : Prop := ∃ c2 oc2, h.get? c2 = some oc2 ∧ CodeO oc2 ∧ RuleAt c2 h r x reach v
def RuleS (t : List (Addr × Obj)) (r : Addr) (x : Str) (reach : Int) (v : Str) : Prop := ∀ h, AllBut t h → RuleH h r x reach v
theorem RuleS.grow {a b : List (Addr × Obj)} {r : Addr} {x v : Str} {n : Int} (y : RuleS a r x n v) (s : Grow a b) : RuleS b r x n v := fun h hb => y h (hb.grow s)
/-- where a contract may have put things: old, the table, or fresh -/
def Came (h : Heap) (t t' : List (Addr × Obj)) : Prop := ∀ p ∈ t', p ∈ t ∨ p.1 = 114 ∨ h.get? p.1 = none
theorem Came.off {h : Heap} {t t' : List (Addr × Obj)} {K : Addr} {o : Obj} (x : Came h t t') (hK : h.get? K = some o) (hn : @Ne Nat K 114) (ho : ∀ p ∈ t, p.1 ≠ K) : ∀ p ∈ t', p.1 ≠ K := fun p hp e => by
  rcases x p hp with h1 | h1 | h1
  · exact ho p h1 e
  · exact hn (e ▸ h1)
  · rw [e, hK] at h1; cases h1
theorem blob_step {h₀ h h' : Heap} {L : Addr} {m : Str → Option Value} {news t new : List (Addr × Obj)} {o' : Obj} {gg : List (Addr × Obj) → List (Addr × Obj)} (F : Fr h₀ L h m) (N : News h₀ L h news) (U : Tl 114 t news gg) {o : Obj} (ho : (114, o) ∈ t)
    (hk : ∀ b o, @Ne Nat b 114 → h.get? b = some o → h'.get? b = some o) (hP : h'.get? 114 = some o') (hn : ∀ p ∈ new, h'.get? p.1 = some p.2 ∧ h.get? p.1 = none) :
    ∃ t', t' = (114, o') :: (new ++ t.filter fun p => decide (@Ne Nat p.1 114)) ∧ Grow t t' ∧ (∀ p ∈ new, p ∈ t') ∧ Came h t t' ∧ Fr h₀ L h' m ∧ News h₀ L h' (gg t') := by
  obtain ⟨pre, e, eg, hpre⟩ := U.split
  subst e
  have hN114 := N _ (List.mem_append_right _ ho)
  have hfL : h₀.get? 114 = none := hN114.2.2
  refine ⟨_, rfl, fun p hp hne => .tail _ (List.mem_append_right _ (List.mem_filter.mpr ⟨hp, by simpa using hne⟩)), fun p hp => .tail _ (List.mem_append_left _ hp), fun p hp => ?_, ⟨F.ns.at' fun o e => hk _ o (Ne.symm hN114.2.1) e, fun b o e => hk b o (fun q => by rw [q, hfL] at e; cases e) (F.keep b o e), F.above⟩, fun p hp => ?_⟩
  · rcases List.mem_cons.mp hp with rfl | hp
    · exact .inr (.inl rfl)
    · rcases List.mem_append.mp hp with hp | hp
      · exact .inr (.inr (hn p hp).2)
      · exact .inl (List.mem_filter.mp hp).1
  · rw [eg] at hp
    rcases List.mem_append.mp hp with hp | hp
    · have := N p (List.mem_append_left _ hp)
      exact ⟨hk _ _ (hpre p hp) this.1, this.2⟩
    · rcases List.mem_cons.mp hp with rfl | hp
      · exact ⟨hP, hN114.2⟩
      · rcases List.mem_append.mp hp with hp | hp
        · have := hn p hp
          refine ⟨this.1, ?_, ?_⟩
          · intro e
            obtain ⟨oL, _, _, hoL, _⟩ := F.ns
            rw [← e, this.2] at hoL; cases hoL
          · cases q : h₀.get? p.1 with
            | none => rfl
            | some o => have h2 := F.keep _ _ q; rw [this.2] at h2; cases h2
        · have h1 := List.mem_filter.mp hp
          have := N p (List.mem_append_right _ h1.1)
          exact ⟨hk _ _ (by simpa using h1.2) this.1, this.2⟩
theorem rule_b {w : World} {loose : List Str} {mean : ExcName → Option Value} {mg mb : Str → Option Value}
  {dp un : Nat} {gd : Option (List Code)} {cn : Str} {cs : Scope} {a : Addr} {ccd : Value} {cl : List (Str × Addr)} {outer : List Env} {A₀ : Around} {base h₀ : Heap} {L : Addr} {m : Str → Option Value} {s : Shared} {Q E : Value → Shared → Prop}
  {x v : Str} {r : Int} {tx tr tv : Tok} {sup t news : List (Addr × Obj)} {gg : List (Addr × Obj) → List (Addr × Obj)}
  (B : Below A₀ base outer h₀) (F : Fr h₀ L s.heap m) (X : (hd.heap_39 w.params).In h₀) (T : Top topProg loose mean mg mb h₀) (hk : cs.kind = .function) (hdp : dp + 16 < recursionLimit) (hun : un + 128 < cLine)
  (C : CodeHd h₀ 118 114) (N : News h₀ L s.heap news) (hb : Tab sup t) (U : Tl 114 t news gg) (hs : ∀ p ∈ sup, s.heap.get? p.1 = some p.2)
  (hret : ∀ (D : Addr) (t' : List (Addr × Obj)) (h' : Heap) (tk' : Nat), Grow t t' → Tab sup t' → RuleS (sup ++ t') D x r v → Came s.heap t t' → Fr h₀ L h' m → News h₀ L h' (gg t') → (∀ b o, @Ne Nat b 114 → s.heap.get? b = some o → h'.get? b = some o) →
    Q (.ref D) { s with heap := h', toks := tk' }) :
  wpAny (model Challenge.rw_ij0195_02.row.prog w) (ktrTop dp un gd cn cs L a ccd cl outer) (call (.ref 119) [.str x tx, .int r tr, .str v tv]) Q E s := by
  obtain ⟨o, ho, hc⟩ := hb
  obtain ⟨pre, e, eg, hpre⟩ := id U.split
  have N1 : News h₀ L s.heap [(114, o)] := fun p hp => by
    rw [List.mem_singleton.mp hp]
    exact N _ (by rw [e]; exact List.mem_append_right _ ho)
  have h114 := (N1 _ (.head _)).1
  rcases hc with rfl | ⟨c1, c2, oc2, rfl, hm, hne, hco⟩
  · refine rule_0 B F X T hk hdp hun C N1 fun D c1 c2 oc1 oc2 led h' tk' hco hr hl h1 h2 ht hkp => ?_
    obtain ⟨t', et, hg, hnew, hcm, F', N'⟩ := blob_step (new := (c2, oc2) :: led) F N U ho hkp ht (fun p hp => by
      rcases List.mem_cons.mp hp with rfl | hp
      · exact h2
      · exact hl p hp)
    have off : ∀ p ∈ (c2, oc2) :: led, @Ne Nat p.1 114 := fun p hp q => by
      have : s.heap.get? p.1 = none := by
        rcases List.mem_cons.mp hp with rfl | hp
        · exact h2.2
        · exact (hl p hp).2
      rw [q, h114] at this; cases this
    have hc2 := off _ (.head _)
    refine hret D t' h' tk' hg ⟨_, by rw [et]; exact .head _, .inr ⟨c1, c2, oc2, rfl, List.mem_append_right _ (hnew _ (.head _)), hc2, hco⟩⟩ (fun h hA => ?_) hcm F' N' hkp
    exact ⟨c2, oc2, hA _ (List.mem_append_right _ (hnew _ (.head _))) hc2, hco, hr h fun p hp => hA p (List.mem_append_right _ (hnew p (.tail _ hp))) (off p (.tail _ hp))⟩
  · refine rule_1 B F X T hk hdp hun C N1 fun D led h' tk' hr hl ht hkp => ?_
    obtain ⟨t', et, hg, hnew, hcm, F', N'⟩ := blob_step (new := led) F N U ho hkp ht hl
    have off : ∀ p ∈ led, @Ne Nat p.1 114 := fun p hp q => by
      have := (hl p hp).2
      rw [q, h114] at this; cases this
    have hm' : (c2, oc2) ∈ sup ++ t' := hg.sup _ hm hne
    refine hret D t' h' tk' hg ⟨_, by rw [et]; exact .head _, .inr ⟨c1, c2, oc2, rfl, hm', hne, hco⟩⟩ (fun h hA => ?_) hcm F' N' hkp
    exact ⟨c2, oc2, hA _ hm' hne, hco, hr h fun p hp => hA p (List.mem_append_right _ (hnew p hp)) (off p hp)⟩
end Mine
end
section
open PySem PySem.W PyProof.Rows PySem.Calls
set_option maxRecDepth 100000
namespace Mine
open PySem.SeqAt
section
variable {prog : Program} {w : World} {A : Around} {E : Value → Shared → Prop} {s : Shared} {l : Addr} {vs : List Value} {Q : Value → Shared → Prop}
theorem index_any {x : Value} {e : Value → Bool} {j : Nat} {v : Value} (hl : s.heap.IsList l vs.toArray) (he : ∀ y, y ∈ vs → ∀ (A : Around) (s : Shared), EqAt A s y x (e y)) (hj : vs[j]? = some v) (hit : e v = true) (hno : ∀ i u, vs[i]? = some u → i < j → e u = false) (hsz : vs.length ≤ 100000)
    (h : Q (.int (j : Int) s.toks) { s with toks := s.toks + 1 }) : wpAny (model prog w) A (call (.builtin "list.index") [.ref l, x]) Q E s := by
  obtain ⟨o, ho, hc, n, hd⟩ := hl
  obtain ⟨oc, od, odt, osl⟩ := o
  dsimp only at hc hd
  subst hc hd
  have hjl : j < vs.length := (List.getElem?_eq_some_iff.mp hj).1
  have hjv : vs[j] = v := (List.getElem?_eq_some_iff.mp hj).2
  refine call_meets PySem.F.slot_list_index ⟨_, ho, rfl⟩ PySem.F.entry_list_index (PySem.F.args_list_index_2 _ _)
    (list_indexAt l vs.toArray n od osl x e j (by simpa using hjl) (by omega) (by simpa [hjv] using hit) (fun i hi hlt => hno i _ (by simp at hi ⊢) hlt)) ⟨ho, fun y hy => he y (by simpa using hy) _ _, h⟩
theorem not_of_lt_idx {α : Type} [BEq α] {xs : List α} {a : α} {i : Nat} (h : i < xs.idxOf a) : ∀ hi : i < xs.length, (xs[i] == a) = false := fun _ => List.not_of_lt_findIdx (p := (· == a)) h
theorem strs_at {xs : List Str} (hS : StrsAre vs xs) {i : Nat} {u : Value} (hu : vs[i]? = some u) : ∃ x t, xs[i]? = some x ∧ u = .str x t := strs_get hS hu
theorem index_str {xs : List Str} {x : Str} {t : Tok} (hl : s.heap.IsList l vs.toArray) (hS : StrsAre vs xs) (hx : x ∈ xs) (hsz : vs.length ≤ 100000)
    (h : Q (.int (xs.idxOf x : Int) s.toks) { s with toks := s.toks + 1 }) : wpAny (model prog w) A (call (.builtin "list.index") [.ref l, .str x t]) Q E s := by
  have hj := List.idxOf_lt_length_of_mem hx
  obtain ⟨t', hv⟩ : ∃ t', vs[xs.idxOf x]? = some (.str x t') := by
    have hlen := StrsAre.length hS
    obtain ⟨y, t', e1, e2⟩ := strs_at hS (List.getElem?_eq_getElem (l := vs) (by omega : xs.idxOf x < vs.length))
    have : y = x := by
      rw [List.getElem?_eq_getElem hj] at e1
      rw [List.getElem_idxOf hj] at e1
      exact (Option.some.inj e1).symm
    subst this
    exact ⟨t', by rw [List.getElem?_eq_getElem (by omega), e2]⟩
  refine index_any (e := fun y => match y with | .str z _ => z == x | _ => false) hl (fun y hy A s => ?_) hv (by simp) (fun i u hu hi => ?_) hsz h
  · obtain ⟨i, hi, rfl⟩ := List.getElem_of_mem hy
    obtain ⟨z, t2, e1, e2⟩ := strs_at hS (List.getElem?_eq_getElem hi)
    rw [e2]
    exact EqAt.str_str z t2 x t
  · obtain ⟨z, t2, e1, rfl⟩ := strs_at hS hu
    have hi2 : i < xs.length := (List.getElem?_eq_some_iff.mp e1).1
    have : xs[i] = z := (List.getElem?_eq_some_iff.mp e1).2
    rw [← this]
    simpa using not_of_lt_idx hi hi2
/-- whole numbers written out -/
def IntsN (vs : List Value) (ns : List Nat) : Prop := vs.length = ns.length ∧ ∀ (i : Nat) (v : Value), vs[i]? = some v → ∃ (n : Nat) (t : Tok), ns[i]? = some n ∧ v = .int (n : Int) t
theorem index_int {ns : List Nat} {n : Nat} {k : Int} {t : Tok} (hl : s.heap.IsList l vs.toArray) (hS : IntsN vs ns) (hk : k = (n : Int)) (hx : n ∈ ns) (hsz : vs.length ≤ 100000)
    (h : Q (.int (ns.idxOf n : Int) s.toks) { s with toks := s.toks + 1 }) : wpAny (model prog w) A (call (.builtin "list.index") [.ref l, .int k t]) Q E s := by
  subst hk
  have hj := List.idxOf_lt_length_of_mem hx
  obtain ⟨hlen, hall⟩ := hS
  obtain ⟨t', hv⟩ : ∃ t', vs[ns.idxOf n]? = some (.int n t') := by
    obtain ⟨y, t', e1, e2⟩ := hall _ _ (List.getElem?_eq_getElem (l := vs) (by omega : ns.idxOf n < vs.length))
    have : y = n := by
      rw [List.getElem?_eq_getElem hj] at e1
      rw [List.getElem_idxOf hj] at e1
      exact (Option.some.inj e1).symm
    subst this
    exact ⟨t', by rw [List.getElem?_eq_getElem (by omega), e2]⟩
  refine index_any (e := fun y => match y with | .int z _ => z == (n : Int) | _ => false) hl (fun y hy A s => ?_) hv (by simp) (fun i u hu hi => ?_) hsz h
  · obtain ⟨i, hi, rfl⟩ := List.getElem_of_mem hy
    obtain ⟨z, t2, e1, e2⟩ := hall _ _ (List.getElem?_eq_getElem hi)
    rw [e2]
    exact EqAt.int_int z t2 n t
  · obtain ⟨z, t2, e1, rfl⟩ := hall _ _ hu
    have hi2 : i < ns.length := (List.getElem?_eq_some_iff.mp e1).1
    have : ns[i] = z := (List.getElem?_eq_some_iff.mp e1).2
    rw [← this]
    have hz : ¬ ns[i] = n := by simpa using not_of_lt_idx hi hi2
    simp only [beq_eq_false_iff_ne, ne_eq]
    omega
theorem isl {k : Nat} (hl : s.heap.get? l = some (lstO vs.toArray k)) : s.heap.IsList l vs.toArray := ⟨_, hl, rfl, _, rfl⟩
theorem method_at {k : Nat} {name : Str} {id : String} {pl : Sem Bool} {Q : Value × List Value → Shared → Prop} (hl : s.heap.get? l = some (lstO vs.toArray k)) (slot : Slot "list" name id) (hty : typeOf (.builtin id) = pure (.type "method_descriptor"))
    (h : Q (.builtin id, [.ref l]) s) : wpAny (model prog w) A (getMethod (.ref l) name pl) Q E s :=
  getMethod_builtin ⟨_, hl, rfl⟩ PySem.F.plainAttrs_list slot hty (fun a e => by cases e; exact ⟨_, hl, rfl⟩) h
end
section
variable {prog : Program} {w : World} {A : Around} {E : Value → Shared → Prop} {s : Shared} {h₀ : Heap} {L D b : Addr} {m : Str → Option Value} {news : List (Addr × Obj)} {n n2 : Nat} {g : Obj → List (Addr × Obj)} {Q : Value → Shared → Prop}
theorem extend_o {us vs : List Value} (F : Fr h₀ L s.heap m) (N : News h₀ L s.heap news) (hb : (b, lstO vs.toArray n2) ∈ news) (U : UpdF D (lstO us.toArray n) news g) (hz : us.length + vs.length ≤ 100000)
    (h : ∀ h' k, Fr h₀ L h' m → News h₀ L h' (g (lstO (us ++ vs).toArray k)) → Q .none { s with heap := h' }) : wpAny (model prog w) A (call (.builtin "list.extend") [.ref D, .ref b]) Q E s := by
  obtain ⟨pre, post, hls, hg, a, c⟩ := U.split
  have z := N (D, lstO us.toArray n) (by rw [hls]; exact List.mem_append_right _ (.head _))
  have eq : us.toArray ++ vs.toArray = (us ++ vs).toArray := by simp
  have e2 : Obj.mapSeq (fun x => x ++ vs.toArray) (lstO us.toArray n) = lstO (us ++ vs).toArray (if (us.toArray ++ vs.toArray).size == us.toArray.size then n else n + 1) := by
    rw [← eq]; rfl
  have ⟨U1, U2⟩ := news_upd (f := Obj.mapSeq fun x => x ++ vs.toArray) (o' := lstO (us ++ vs).toArray (if (us.toArray ++ vs.toArray).size == us.toArray.size then n else n + 1)) F (hls ▸ N) a c e2 rfl
  refine call_meets PySem.F.slot_list_extend ⟨_, z.1, rfl⟩ PySem.F.entry_list_extend (PySem.F.args_list_extend_2 _ _) (PySem.AutoSeq1.list_extend_list_list_0 D us.toArray n b vs.toArray n2 ?_ ?_ ?_) ⟨z.1, (N _ hb).1, h _ _ U1 (hg _ ▸ U2)⟩
  · have : Builtin.List.listTooLong (us.toArray.size + vs.toArray.size) = false := by
      unfold Builtin.List.listTooLong
      rw [decide_eq_false_iff_not, sizeLine_eq, List.size_toArray, List.size_toArray]; omega
    rw [this]; simp
  · rw [sizeLine_eq, List.size_toArray]; omega
  · rw [sizeLine_eq, List.size_toArray, List.size_toArray]; omega
end
theorem Paired.app {α β : Type} {F : α → β → Prop} {a : List α} {b : List β} {a2 : List α} {b2 : List β} (h : Paired F a b) (h2 : Paired F a2 b2) : Paired F (a ++ a2) (b ++ b2) := by
  induction h with
  | nil => exact h2
  | cons e _ ih => exact .cons e ih
theorem Paired.imp {α β : Type} {F G : α → β → Prop} (hi : ∀ x y, F x y → G x y) {a : List α} {b : List β} (h : Paired F a b) : Paired G a b := by
  induction h with
  | nil => exact .nil
  | cons e _ ih => exact .cons (hi _ _ e) ih
end Mine
end
section
open PySem PySem.W PyProof.Rows PySem.Calls
set_option maxRecDepth 100000
set_option maxHeartbeats 0
namespace Mine
/-- three names over a map -/
def map3 (a b c : Str) (m : Str → Option Value) (u v w : Option Value) : Str → Option Value := fun y => if y = a then u else if y = b then v else if y = c then w else m y
theorem map3_self {a b c : Str} {m : Str → Option Value} : m = map3 a b c m (m a) (m b) (m c) := by
  funext y
  unfold map3
  split
  · rename_i h; rw [h]
  · split
    · rename_i h; rw [h]
    · split
      · rename_i h; rw [h]
      · rfl
theorem map3_end {a b c : Str} {m : Str → Option Value} {u v w u' v' w' : Option Value} : (fun y => if y = a then u' else if y = b then v' else if y = c then w' else map3 a b c m u v w y) = map3 a b c m u' v' w' := by
  funext y
  unfold map3
  split
  · rfl
  · split
    · rfl
    · split
      · rfl
      · rfl
theorem fr_map3 {a b c : Str} {g h : Heap} {L : Addr} {m : Str → Option Value} (F : Fr g L h m) : Fr g L h (map3 a b c m (m a) (m b) (m c)) := by rw [← map3_self]; exact F
def baseR (e1 e3 e4 e5 : Addr × Obj) (K : Addr) (ua : Array Value) (k : Nat) (tl : List (Addr × Obj)) : List (Addr × Obj) := e1 :: (K, lstO ua k) :: e3 :: e4 :: e5 :: tl
theorem Codes.sub {a b : List (Addr × Obj)} {o : Obj} (y : Codes a o) (s : ∀ p ∈ a, p ∈ b) : Codes b o := y.elim .inl fun ⟨c1, c2, oc2, e, hm, hc⟩ => .inr ⟨c1, c2, oc2, e, s _ hm, hc⟩
section
variable {prog : Program} {w : World} {A : Around} {E : Value → Shared → Prop} {s : Shared} {h₀ : Heap} {L l : Addr} {m : Str → Option Value} {vs : List Value} {k : Nat} {Q : Value → Shared → Prop}
theorem len_g (hl : h₀.get? l = some (lstO vs.toArray k)) (F : Fr h₀ L s.heap m) (hz : vs.length ≤ 100000) (h : ∀ t' k, Q (.int (vs.length : Int) t') { s with toks := k }) : wpAny (model prog w) A (call (.builtin "len") [.ref l]) Q E s := by
  refine call_len_list (items := vs.toArray) (isl (F.keep _ _ hl)) (by rw [List.size_toArray]; omega) ?_
  rw [List.size_toArray]
  exact h _ _
theorem index_g {xs : List Str} {x : Str} {t : Tok} (hl : h₀.get? l = some (lstO vs.toArray k)) (F : Fr h₀ L s.heap m) (hS : StrsAre vs xs) (hx : x ∈ xs) (hsz : vs.length ≤ 100000)
    (h : Q (.int (xs.idxOf x : Int) s.toks) { s with toks := s.toks + 1 }) : wpAny (model prog w) A (call (.builtin "list.index") [.ref l, .str x t]) Q E s := index_str (isl (F.keep _ _ hl)) hS hx hsz h
theorem method_g {name : Str} {id : String} {pl : Sem Bool} {Q : Value × List Value → Shared → Prop} (hl : h₀.get? l = some (lstO vs.toArray k)) (F : Fr h₀ L s.heap m) (slot : Slot "list" name id) (hty : typeOf (.builtin id) = pure (.type "method_descriptor"))
    (h : Q (.builtin id, [.ref l]) s) : wpAny (model prog w) A (getMethod (.ref l) name pl) Q E s := method_at (F.keep _ _ hl) slot hty h
end
theorem sorted_n {prog : Program} {w : World} {A : Around} {E : Value → Shared → Prop} {s : Shared} {h₀ : Heap} {L : Addr} {m : Str → Option Value} {news : List (Addr × Obj)} {l : Addr} {vs : List Value} {ss : List Str} {Q : Value → Shared → Prop}
    (F : Fr h₀ L s.heap m) (N : News h₀ L s.heap news) (hl : s.heap.IsList l vs.toArray) (hS : StrsAre vs ss) (h64 : vs.length < 64)
    (h : ∀ (S : Addr) (h' : Heap) (vs' : List Value) (ss' : List Str) (e : Nat), Fr h₀ L h' m → News h₀ L h' ((S, lstO vs'.toArray e) :: news) → (∀ p ∈ news, @LT.lt Nat _ p.1 S) →
      StrsAre vs' ss' → ss'.Perm ss → Q (.ref S) { s with heap := h' }) :
    wpAny (model prog w) A (call (.builtin "sorted") [.ref l]) Q E s :=
  sorted_N_str F N hl hS h64 fun h' vs' ss' e F' N' hs hp _ => h _ h' vs' ss' e F' N' (fun p hp => Nat.lt_succ_of_lt (Heap.lt_size (N p hp).1)) hs hp
abbrev s_pair := Str.ofString "pair"
abbrev s_reach := Str.ofString "reach"
abbrev s_x := Str.ofString "x"
def reachOf (xs : List Str) (x : Str) : Int := (xs.length : Int) - (xs.idxOf x : Int)
/-- the two rules of a word -/
def twoOf (xs : List Str) (x : Str) : List (Str × Int × Str) := if (reachOf xs x).fmod 2 ≠ 0 then [(x, reachOf xs x, x), (x, reachOf xs x, Str.ofString "")] else [(x, reachOf xs x, Str.ofString ""), (x, reachOf xs x, x)]
def rulesOf (xs ss : List Str) : List (Str × Int × Str) := ss.flatMap (twoOf xs)
def RuleV (t : List (Addr × Obj)) (r : Str × Int × Str) (u : Value) : Prop := ∃ a, u = .ref a ∧ RuleS t a r.1 r.2.1 r.2.2
inductive HostAt (h : Heap) (one : Addr) (us : List Value) : Prop
  | mk (d l : Addr) (es : List DictEntry) (n k : Nat) (q1 : h.get? one = some (instObj 52 d)) (q2 : h.get? d = some (dictOf es n)) (q3 : getL "rulelines" es = some (some (.ref l))) (q4 : getL "allowance" es = some none) (q5 : h.get? l = some (lstO us.toArray k)) : HostAt h one us
inductive JR (m₀ : Str → Option Value) (sup : List (Addr × Obj)) (xs ss : List Str) (base : Array Value → Nat → List (Addr × Obj) → List (Addr × Obj)) (K : Addr) (i : Nat) (mT : Str → Option Value) (newsT : List (Addr × Obj)) : Prop
  | mk (us : List Value) (k : Nat) (tl : List (Addr × Obj)) (u1 u2 u3 : Option Value) (q1 : mT = map3 s_pair s_reach s_x m₀ u1 u2 u3) (q2 : newsT = base us.toArray k tl) (q3 : Tab sup tl) (q4 : (∀ p ∈ tl, @Ne Nat p.1 K)) (q5 : Paired (RuleV (sup ++ tl)) (rulesOf xs (ss.take i)) us) : JR m₀ sup xs ss base K i mT newsT
theorem JR_mem {m₀ : Str → Option Value} {sup : List (Addr × Obj)} {xs ss : List Str} {S K : Addr} {oS : Obj} {e3 e4 e5 : Addr × Obj} {i : Nat} {mT : Str → Option Value} {newsT : List (Addr × Obj)} : JR m₀ sup xs ss (baseR (S, oS) e3 e4 e5 K) K i mT newsT → (S, oS) ∈ newsT := by
  rintro ⟨us, k, tl, u1, u2, u3, _, rfl, _⟩
  exact .head _
local macro_rules | `(tactic| k_room) => `(tactic| ktr_room)
local macro_rules | `(tactic| walk_at "call ref") => `(tactic| ((with_reducible show wpAny _ _ (call (Value.ref 119) _) _ _ _); refine hold_ ?_))
local macro_rules | `(tactic| k_all) => `(tactic| assumption)
local macro_rules | `(tactic| k_all) => `(tactic| exact fun p hp => Nat.ne_of_lt ((by assumption : ∀ p ∈ _, @LT.lt Nat _ p.1 _) p hp))
local macro_rules | `(tactic| walk_at "call builtin:len") => `(tactic| (k_here; (with_reducible show wpAny _ _ (call (Value.builtin "len") [Value.ref _]) _ _ _); refine len_g (by assumption) (by k_asm) (by omega) ?_; intro _ _))
local macro_rules | `(tactic| walk_at "call builtin:list.index") => `(tactic| (k_here; refine index_g (by assumption) (by k_asm) (by assumption) (by assumption) (by omega) ?_))
local macro_rules | `(tactic| walk_at "getMethod ref") => `(tactic| (k_here; (with_reducible show wpAny _ _ (getMethod (Value.ref _) (PySem.Str.ofString "index") _) _ _ _); refine method_g (by assumption) (by k_asm) PySem.F.slot_list_index PySem.F.type_list_index ?_))
local macro_rules | `(tactic| walk_at "call builtin:sorted") => `(tactic| (k_here; refine hold_ ?_))
local macro_rules | `(tactic| walk_at "pyIter ref") => `(tactic| (k_here; refine hold_ ?_))
theorem RuleV.grow {a b : List (Addr × Obj)} {r : Str × Int × Str} {u : Value} (y : RuleV a r u) (s : Grow a b) : RuleV b r u := let ⟨x, e, h⟩ := y; ⟨x, e, h.grow s⟩
theorem rules_step {t t' : List (Addr × Obj)} {xs ss : List Str} {x : Str} {i : Nat} {us two : List Value} (hx : ss[i]? = some x) (hP : Paired (RuleV t) (rulesOf xs (ss.take i)) us) (hg : Grow t t') (h2 : Paired (RuleV t') (twoOf xs x) two) : Paired (RuleV t') (rulesOf xs (ss.take (i + 1))) (us ++ two) := by
  have e : ss.take (i + 1) = ss.take i ++ [x] := by rw [List.take_succ, hx]; rfl
  unfold rulesOf at hP ⊢
  rw [e, List.flatMap_append]
  refine Mine.Paired.app (Mine.Paired.imp (fun _ _ h => h.grow hg) hP) ?_
  simpa using h2
theorem two_odd {t : List (Addr × Obj)} {xs : List Str} {x : Str} {r : Int} {D1 D2 : Addr} (hr : r = reachOf xs x) (ho : r.fmod 2 ≠ 0) (h1 : RuleS t D1 x r x) (h2 : RuleS t D2 x r (Str.ofString "")) : Paired (RuleV t) (twoOf xs x) [.ref D1, .ref D2] := by
  unfold twoOf
  rw [← hr, if_pos ho]
  exact .cons ⟨_, rfl, h1⟩ (.cons ⟨_, rfl, h2⟩ .nil)
theorem two_even {t : List (Addr × Obj)} {xs : List Str} {x : Str} {r : Int} {D1 D2 : Addr} (hr : r = reachOf xs x) (ho : r.fmod 2 = 0) (h1 : RuleS t D1 x r x) (h2 : RuleS t D2 x r (Str.ofString "")) : Paired (RuleV t) (twoOf xs x) [.ref D2, .ref D1] := by
  unfold twoOf
  rw [← hr, if_neg (fun h => h ho)]
  exact .cons ⟨_, rfl, h2⟩ (.cons ⟨_, rfl, h1⟩ .nil)
theorem two_len (xs : List Str) (x : Str) : (twoOf xs x).length = 2 := by unfold twoOf; split <;> rfl
theorem rules_len (xs : List Str) : ∀ ss : List Str, (rulesOf xs ss).length = 2 * ss.length
  | [] => rfl
  | x :: ss => by
    show (twoOf xs x ++ rulesOf xs ss).length = _
    rw [List.length_append, two_len, rules_len xs ss, List.length_cons]; omega
theorem news_tl {g h : Heap} {L : Addr} {p : Addr × Obj} {l : List (Addr × Obj)} (N : News g L h (p :: l)) : News g L h l := fun q hq => N q (.tail _ hq)
theorem three {α : Type} {P : α → Prop} {a b c : α} (h1 : P a) (h2 : P b) (h3 : P c) : ∀ p ∈ [a, b, c], P p := fun p hp => by
  simp only [List.mem_cons, List.not_mem_nil, or_false] at hp
  rcases hp with rfl | rfl | rfl
  · exact h1
  · exact h2
  · exact h3
theorem rec_fin {g hs hT : Heap} {L' S l one d : Addr} {oS : Obj} {us : List Value} {k n : Nat} {es : List DictEntry} {e3 : Addr × Obj} {tl : List (Addr × Obj)} (N : News g L' hT ((S, oS) :: (l, lstO us.toArray k) :: e3 :: (one, instObj 52 d) :: (d, dictOf es n) :: tl)) (hg : g = hideAll hs [114]) (n1 : @Ne Nat one 114) (n2 : @Ne Nat d 114) (n3 : @Ne Nat l 114) :
    ∀ p ∈ [(one, instObj 52 d), (d, dictOf es n), (l, lstO us.toArray k)], hT.get? p.1 = some p.2 ∧ hs.get? p.1 = none :=
  three ⟨(N (one, instObj 52 d) (by simp)).1, fresh_hid hg (N (one, instObj 52 d) (by simp)).2.2 n1⟩ ⟨(N (d, dictOf es n) (by simp)).1, fresh_hid hg (N (d, dictOf es n) (by simp)).2.2 n2⟩ ⟨(N (l, lstO us.toArray k) (by simp)).1, fresh_hid hg (N (l, lstO us.toArray k) (by simp)).2.2 n3⟩
local macro_rules | `(tactic| ke_reads) => `(tactic| first | exact Tl.nil | (refine' Tl.cons ?a ?b; (case a => k_ne); (case b => ke_reads)))
theorem record_0 {w : World} {loose : List Str} {mean : ExcName → Option Value} {mg mb : Str → Option Value}
  {dp un : Nat} {gd : Option (List Code)} {cn : Str} {cs : Scope} {a : Addr} {ccd : Value} {cl : List (Str × Addr)} {outer : List Env} {A₀ : Around} {base h₀ : Heap} {L : Addr} {m : Str → Option Value} {s : Shared} {Q E : Value → Shared → Prop}
  {al : Addr} {vs : List Value} {xs : List Str} {sup : List (Addr × Obj)} {o : Obj} {ka : Nat}
  (B : Below A₀ base outer h₀) (F : Fr h₀ L s.heap m) (X : (hd.heap_39 w.params).In h₀) (T : Top topProg loose mean mg mb h₀) (hk : cs.kind = .function) (hdp : dp + 32 < recursionLimit) (hun : un + 256 < cLine)
  (C : CodeHd h₀ 118 114) (N : News h₀ L s.heap [(114, o)]) (hs : ∀ p ∈ sup, s.heap.get? p.1 = some p.2 ∧ @Ne Nat p.1 114) (hc : Codes sup o)
  (hl : s.heap.get? al = some (lstO vs.toArray ka)) (hal : @Ne Nat al 114) (hxs : StrsAre vs xs) (hsz : vs.length ≤ 8)
  (hret : ∀ (one d l : Addr) (es : List DictEntry) (n k : Nat) (us : List Value) (ss : List Str) (tl : List (Addr × Obj)) (h' : Heap) (tk' : Nat), ss.Perm xs → getL "rulelines" es = some (some (.ref l)) → getL "allowance" es = some none →
    (∀ p ∈ [(one, instObj 52 d), (d, dictOf es n), (l, lstO us.toArray k)], h'.get? p.1 = some p.2 ∧ s.heap.get? p.1 = none) → (∀ p ∈ tl, h'.get? p.1 = some p.2 ∧ (@Ne Nat p.1 114 → s.heap.get? p.1 = none)) → Tab sup tl → Paired (RuleV (sup ++ tl)) (rulesOf xs ss) us →
    (∀ b o, @Ne Nat b 114 → s.heap.get? b = some o → h'.get? b = some o) → Q (.ref one) { s with heap := h', toks := tk' }) :
  wpAny (model Challenge.rw_ij0195_02.row.prog w) (ktrTop dp un gd cn cs L a ccd cl outer) (call (.ref 126) [.ref al]) Q E s := by
  w_strict (
    (revert X; k_fill; intro X)
    refine wpAny_call ?_
    refine' callPH ?k1 ?k2 ?k3 ?k5 ?kA ?kF ?kK ?kN ?k6 ?k7 ?k8 ?k9 ?kB ?_ ?c2 ?c3 ?c4 ?c5
    (case kA => exact rfl); (case kF => exact rfl); (case kK => assumption); (case kN => exact N); (case k1 => k_asm); (case k2 => k_asm); (case k3 => k_asm); (case k5 => k_asm); (case k6 => k_is); (case k7 => k_is); (case k8 => ktr_room); (case k9 => exact BindsTo.of_eq rfl); (case c5 => decide); (case kB => exact locs rfl); (case c2 => exact rfl); (case c3 => exact rfl); (case c4 => exact rfl)
    k_whole
    intro g L' h' hg F' N' B' X' T' st' ll
    have C' := C.keeps (h' := g) fun b o e => st' b o e
    (try simp only [List.mem_cons, List.not_mem_nil, or_false, forall_eq_or_imp, forall_eq] at ll)
    have hlg : g.get? al = some (lstO vs.toArray ka) := by rw [hg]; exact hideAll_get [114] hl (fun q => hal (List.mem_singleton.mp q))
    have hsg : ∀ p ∈ sup, g.get? p.1 = some p.2 := fun p hp => by rw [hg]; exact hideAll_get [114] (hs p hp).1 (fun q => (hs p hp).2 (List.mem_singleton.mp q))
    clear N F
    (try dsimp only)
    (try k_lift B')
    (try k_fold)
    k_steps
    refine of_hold ?_
    with_reducible rename Fr _ _ _ _ => F1
    with_reducible rename News _ _ _ _ => N1
    refine sorted_n F1 N1 (isl (F1.keep _ _ hlg)) hxs (by omega) fun S h2 vs2 ss e2 F2 N2 l2 hss hperm => ?_
    k_lt l2
    clear F1 N1
    k_steps
    refine of_hold ?_
    with_reducible rename Fr _ _ _ _ => F3
    with_reducible rename News _ _ _ _ => N3
    have F3' := fr_map3 (a := s_pair) (b := s_reach) (c := s_x) F3
    with_unfolding_all refine iter_gen (JR _ sup xs ss (baseR (S, _) _ _ _ _) _) rfl F3' N3 (fun p hp => hp) (fun _ _ _ => JR_mem) (isl (N3 _ (.head _)).1) ⟨[], _, [(114, o)], _, _, _, rfl, rfl, ⟨o, .head _, hc.sub fun p hp => List.mem_append_left _ hp⟩, ?hoff, .nil⟩ ?turn ?done
    (case hoff =>
      intro p hp
      rw [List.mem_singleton.mp hp]
      (show @Ne Nat 114 _)
      omega)
    (case turn =>
      clear F3 F3' N3
      intro iT vT IT oT mT newsT hT tkT hvT hI0 hIT HJ FT NT
      obtain ⟨us, k, tl, u1, u2, u3, rfl, rfl, htab, hoff, hP⟩ := HJ
      dsimp only [baseR] at NT hIT
      simp only [List.mem_cons, List.not_mem_nil, or_false, forall_eq_or_imp, forall_eq] at hI0
      obtain ⟨x, t, hx, e⟩ := strs_get hss hvT
      subst e
      have hul : us.length ≤ 16 := by
        have h1 := hP.length
        rw [rules_len] at h1
        have h2 : (ss.take iT).length ≤ ss.length := List.length_take_le' ..
        have h3 := hperm.length_eq
        have h4 := StrsAre.length hxs
        omega
      have hlx : ((vs.length : Int) - (xs.idxOf x : Int)) = reachOf xs x := by unfold reachOf; rw [StrsAre.length hxs]
      have hxm : x ∈ xs := hperm.mem_iff.mp (List.mem_of_getElem? hx)
      k_steps
      refine of_hold ?_
      with_reducible rename Fr _ _ _ _ => F1
      with_reducible rename News _ _ _ _ => N1
      with_unfolding_all refine' rule_b ?k1 F1 ?k3 ?k4 ?k5 ?k6 ?k7 C' N1 htab ?kU (fun p hp => F1.keep _ _ (hsg p hp)) ?_
      (case k1 => exact B')
      (case k3 => k_asm)
      (case k4 => k_asm)
      (case k5 => exact rfl)
      (case k6 => ktr_room)
      (case k7 => ktr_units)
      (case kU => ke_reads)
      intro D1 t1 h3 k3 hg1 htab1 hr1 hc1 F2 N2 hk2
      have hoff1 := hc1.off (N1 _ (.tail _ (.tail _ (.head _)))).1 (by omega) hoff
      dsimp only at hoff1 N2
      have NI1 := N1
      clear F1 N1 FT NT
      k_steps
      refine of_hold ?_
      with_unfolding_all refine' rule_b ?k1 F2 ?k3 ?k4 ?k5 ?k6 ?k7 C' N2 htab1 ?kU (fun p hp => F2.keep _ _ (hsg p hp)) ?_
      (case k1 => exact B')
      (case k3 => k_asm)
      (case k4 => k_asm)
      (case k5 => exact rfl)
      (case k6 => ktr_room)
      (case k7 => ktr_units)
      (case kU => ke_reads)
      intro D2 t2 h4 k4 hg2 htab2 hr2 hc2 F3 N3 hk3
      have hoff2 := hc2.off (N2 _ (.tail _ (.tail _ (.head _)))).1 (by omega) hoff1
      have hI1 := hc1.off (NI1 _ (.head _)).1 (by (show @Ne Nat IT 114); omega) (fun p hp => hIT p (by simp [hp]))
      have hI2 := hc2.off (N2 _ (.head _)).1 (by (show @Ne Nat IT 114); omega) hI1
      dsimp only at hoff2 N3 hI2
      have hr1' := hr1.grow hg2.sup
      clear F2 N2
      k_steps
      · with_reducible rename Fr _ _ _ _ => F4
        with_reducible rename News _ _ _ _ => N4
        with_reducible rename _ ≠ (0 : Int) => hodd
        with_unfolding_all refine' extend_o (us := us) (vs := [.ref D1, .ref D2]) ?j1 ?j2 ?j3 ?j4 ?j5 ?_
        (case j1 => exact F4)
        (case j2 => exact N4)
        (case j3 => k_mem)
        (case j4 => k_updF)
        (case j5 => simp only [List.length_cons, List.length_nil]; omega)
        intro h5 k5 F5 N5
        (try dsimp only at N5)
        clear F4 N4
        k_steps
        rw [map3_end] at F5
        with_unfolding_all refine ⟨_, _, _, _, rfl, F5, news_tl N5, ?_, us ++ [.ref D1, .ref D2], k5, t2, _, _, _, rfl, rfl, htab2, hoff2, rules_step hx hP (hg1.trans hg2).sup (two_odd hlx hodd hr1' hr2)⟩
        simp only [List.mem_cons, forall_eq_or_imp]
        refine ⟨by k_ne, by k_ne, by k_ne, by k_ne, by k_ne, hI2⟩
      · with_reducible rename Fr _ _ _ _ => F4
        with_reducible rename News _ _ _ _ => N4
        with_reducible rename _ = (0 : Int) => hodd
        with_unfolding_all refine' extend_o (us := us) (vs := [.ref D2, .ref D1]) ?j1 ?j2 ?j3 ?j4 ?j5 ?_
        (case j1 => exact F4)
        (case j2 => exact N4)
        (case j3 => k_mem)
        (case j4 => k_updF)
        (case j5 => simp only [List.length_cons, List.length_nil]; omega)
        intro h5 k5 F5 N5
        (try dsimp only at N5)
        clear F4 N4
        k_steps
        rw [map3_end] at F5
        with_unfolding_all refine ⟨_, _, _, _, rfl, F5, news_tl (news_tl N5), ?_, us ++ [.ref D2, .ref D1], k5, t2, _, _, _, rfl, rfl, htab2, hoff2, rules_step hx hP (hg1.trans hg2).sup (two_even hlx hodd hr1' hr2)⟩
        simp only [List.mem_cons, forall_eq_or_imp]
        refine ⟨by k_ne, by k_ne, by k_ne, by k_ne, by k_ne, hI2⟩)
    (case done =>
      clear F3 F3' N3
      intro mT newsT hT tkT HJ FT NT
      obtain ⟨us, k, tl, u1, u2, u3, rfl, rfl, htab, hoff, hP⟩ := HJ
      dsimp only [baseR] at NT
      k_steps
      have hln : vs2.length = ss.length := StrsAre.length hss
      rw [hln, List.take_length] at hP
      have hfr : ∀ p ∈ tl, @Ne Nat p.1 114 → s.heap.get? p.1 = none := fun p hp hne => fresh_hid hg (NT p (by simp [hp])).2.2 hne
      have hst : ∀ p ∈ tl, hT.get? p.1 = some p.2 := fun p hp => (NT p (by simp [hp])).1
      have fin := rec_fin NT hg (by k_ne) (by k_ne) (by k_ne)
      with_unfolding_all refine hret _ _ _ _ _ k us ss tl hT tkT hperm ?q2 ?q3 fin (fun p hp => ⟨hst p hp, hfr p hp⟩) htab hP (fun b o hb e => keep_hid hg FT.keep hb e)
      (case q2 => k_get)
      (case q3 => k_get)))
/-- a host with its rules -/
def HostS (t : List (Addr × Obj)) (one : Addr) (rs : List (Str × Int × Str)) : Prop := ∃ us, (∀ h, AllBut t h → HostAt h one us) ∧ Paired (RuleV t) rs us
theorem HostS.grow {a b : List (Addr × Obj)} {one : Addr} {rs : List (Str × Int × Str)} (y : HostS a one rs) (s : Grow a b) : HostS b one rs := let ⟨us, h, p⟩ := y; ⟨us, fun h' x => h h' (x.grow s), Mine.Paired.imp (fun _ _ h => RuleV.grow h s) p⟩
theorem record_b {w : World} {loose : List Str} {mean : ExcName → Option Value} {mg mb : Str → Option Value}
  {dp un : Nat} {gd : Option (List Code)} {cn : Str} {cs : Scope} {a : Addr} {ccd : Value} {cl : List (Str × Addr)} {outer : List Env} {A₀ : Around} {base h₀ : Heap} {L : Addr} {m : Str → Option Value} {s : Shared} {Q E : Value → Shared → Prop}
  {al : Addr} {vs : List Value} {xs : List Str} {sup t news : List (Addr × Obj)} {gg : List (Addr × Obj) → List (Addr × Obj)} {ka : Nat}
  (B : Below A₀ base outer h₀) (F : Fr h₀ L s.heap m) (X : (hd.heap_39 w.params).In h₀) (T : Top topProg loose mean mg mb h₀) (hk : cs.kind = .function) (hdp : dp + 32 < recursionLimit) (hun : un + 256 < cLine)
  (C : CodeHd h₀ 118 114) (N : News h₀ L s.heap news) (hb : Tab sup t) (U : Tl 114 t news gg) (hs : ∀ p ∈ sup, s.heap.get? p.1 = some p.2 ∧ @Ne Nat p.1 114)
  (hl : s.heap.get? al = some (lstO vs.toArray ka)) (hal : @Ne Nat al 114) (hxs : StrsAre vs xs) (hsz : vs.length ≤ 8)
  (hret : ∀ (one : Addr) (ss : List Str) (t' : List (Addr × Obj)) (h' : Heap) (tk' : Nat), ss.Perm xs → Grow t t' → Tab sup t' → HostS (sup ++ t') one (rulesOf xs ss) → Came s.heap t t' → Fr h₀ L h' m → News h₀ L h' (gg t') → (∀ b o, @Ne Nat b 114 → s.heap.get? b = some o → h'.get? b = some o) →
    Q (.ref one) { s with heap := h', toks := tk' }) :
  wpAny (model Challenge.rw_ij0195_02.row.prog w) (ktrTop dp un gd cn cs L a ccd cl outer) (call (.ref 126) [.ref al]) Q E s := by
  obtain ⟨o, ho, hc⟩ := hb
  obtain ⟨pre, e, eg, hpre⟩ := id U.split
  have Nt : ∀ p ∈ t, s.heap.get? p.1 = some p.2 := fun p hp => (N p (by rw [e]; exact List.mem_append_right _ hp)).1
  have N1 : News h₀ L s.heap [(114, o)] := fun p hp => by
    rw [List.mem_singleton.mp hp]
    exact N _ (by rw [e]; exact List.mem_append_right _ ho)
  have h114 := (N1 _ (.head _)).1
  have hmf : ∀ p, p ∈ t.filter (fun p => decide (@Ne Nat p.1 114)) ↔ p ∈ t ∧ @Ne Nat p.1 114 := fun p => by rw [List.mem_filter, decide_eq_true_eq]
  refine record_0 (sup := sup ++ t.filter fun p => decide (@Ne Nat p.1 114)) B F X T hk hdp hun C N1 (fun p hp => ?_) (hc.elim .inl fun ⟨c1, c2, oc2, e, hm, hne, hco⟩ => .inr ⟨c1, c2, oc2, e, ?_, hne, hco⟩) hl hal hxs hsz fun one d l es n k us ss tl h' tk' hperm g1 g2 hbs htl htab hP hkp => ?_
  · rcases List.mem_append.mp hp with hp | hp
    · exact hs p hp
    · have := (hmf p).mp hp
      exact ⟨Nt p this.1, this.2⟩
  · rcases List.mem_append.mp hm with hm | hm
    · exact List.mem_append_left _ hm
    · exact List.mem_append_right _ ((hmf _).mpr ⟨hm, hne⟩)
  · obtain ⟨o', ho', hc'⟩ := htab
    obtain ⟨t', et, hg, hnew, hcm, F', N'⟩ := blob_step (new := [(one, instObj 52 d), (d, dictOf es n), (l, lstO us.toArray k)] ++ tl.filter fun p => decide (@Ne Nat p.1 114)) F N U ho hkp (htl _ ho').1 (fun p hp => by
      rcases List.mem_append.mp hp with hp | hp
      · exact hbs p hp
      · have := List.mem_filter.mp hp
        exact ⟨(htl p this.1).1, (htl p this.1).2 (by simpa using this.2)⟩)
    have grow : Grow ((sup ++ t.filter fun p => decide (@Ne Nat p.1 114)) ++ tl) (sup ++ t') := fun p hp hne => by
      rcases List.mem_append.mp hp with hp | hp
      · rcases List.mem_append.mp hp with hp | hp
        · exact List.mem_append_left _ hp
        · exact List.mem_append_right _ (hg p (List.mem_filter.mp hp).1 hne)
      · exact List.mem_append_right _ (hnew p (List.mem_append_right _ (List.mem_filter.mpr ⟨hp, by simpa using hne⟩)))
    have off : ∀ p ∈ [(one, instObj 52 d), (d, dictOf es n), (l, lstO us.toArray k)], @Ne Nat p.1 114 := fun p hp q => by
      have := (hbs p hp).2
      rw [q, h114] at this; cases this
    refine hret one ss t' h' tk' hperm hg ⟨o', by rw [et, (rfl : (114, o') = (114, o'))]; exact .head _, hc'.elim .inl fun ⟨c1, c2, oc2, e, hm, hne, hco⟩ => .inr ⟨c1, c2, oc2, e, grow _ hm hne, hne, hco⟩⟩ ⟨us, fun h hA => ?_, Mine.Paired.imp (fun _ _ h => RuleV.grow h grow) hP⟩ hcm F' N' hkp
    have st : ∀ p ∈ [(one, instObj 52 d), (d, dictOf es n), (l, lstO us.toArray k)], h.get? p.1 = some p.2 := fun p hp => hA p (List.mem_append_right _ (hnew p (List.mem_append_left _ hp))) (off p hp)
    exact ⟨d, l, es, n, k, st _ (.head _), st _ (.tail _ (.head _)), g1, g2, st _ (.tail _ (.tail _ (.head _)))⟩
end Mine
end
section
open PySem PySem.W PyProof.Rows PySem.Calls PySem.Flt
set_option maxRecDepth 100000
set_option maxHeartbeats 0
namespace Mine
theorem slot_fn_ga : Slot "function" "__getattribute__" "object.__getattribute__" :=
  .of (owner := "object") (n := "__getattribute__") (by rw [typeLookup_type, builtinLookup_eq_fast]; kernel_rfl) (by decide +kernel) (by decide +kernel) (by decide +kernel)
    (by first | exact .inl (by decide +kernel) | exact .inr (by decide +kernel)) (by rw [isSubtype_type]; kernel_rfl)
theorem fn_lk_getattr : typeLookup (.type "function") "__getattr__" = pure none := by rw [typeLookup_type, builtinLookup_eq_fast]; kernel_rfl
theorem args_oga (a b : Value) : argsOk "object.__getattribute__" ⟨[a, b], []⟩ := by unfold argsOk; kernel_rfl
theorem sub_fn_static : isSubtype (.type "function") (.type "staticmethod") = pure false := by rw [isSubtype_type]; kernel_rfl
theorem sub_fn_classm : isSubtype (.type "function") (.type "classmethod") = pure false := by rw [isSubtype_type]; kernel_rfl
theorem canon_oga : (Manifest.canonical "object.__getattribute__" != "object.__getattribute__") = false := by decide +kernel
section
variable {prog : Program} {w : World} {A : Around} {E : Value → Shared → Prop} {h : Heap} {g : Array GenState} {d : Drawn} {t : Nat} {os : OsState} {x D : Addr} {fd : FuncData} {md : Str → Option Value} {name : Str} {v : Value}
theorem fn_object_entry {tk : Tok} {Q : Fin → Shared → Prop} (hM : h.get? x = some (fnO fd (some D))) (hD : h.Ns D md) (hnm : typeLookup (.type "function") name = pure none) (hv : md name = some v)
    (hq : Q (.done (.ret v)) ⟨h, g, d, t, os⟩) : wpAny (model prog w) A (Builtin.«object.__getattribute__» ⟨[.ref x, .str name tk], []⟩) Q E ⟨h, g, d, t, os⟩ := by
  have hT : (⟨h, g, d, t, os⟩ : Shared).TypeIs (.ref x) "function" := ⟨_, hM, rfl⟩
  have f1 := sub_fn_static
  have f2 := sub_fn_classm
  repeat (any_goals (first | assumption | with_reducible apply wpAny_nsGet_known | with_reducible apply wpAny_loadPart_known | wp_step))
theorem fn_getAttr {ex : Bool} {Q : Value → Shared → Prop} (hM : h.get? x = some (fnO fd (some D))) (hD : h.Ns D md) (hnm : typeLookup (.type "function") name = pure none) (hv : md name = some v)
    (hh : handedOut v = pure v) (hq : Q v ⟨h, g, d, t + 1, os⟩) : wpAny (model prog w) A (getAttr (.ref x) name ex) Q E ⟨h, g, d, t, os⟩ := by
  have hT : (⟨h, g, d, t, os⟩ : Shared).TypeIs (.ref x) "function" := ⟨_, hM, rfl⟩
  have hT1 : (⟨h, g, d, t + 1, os⟩ : Shared).TypeIs (.ref x) "function" := ⟨_, hM, rfl⟩
  have f1 := slot_fn_ga.lookup
  have f2 := fn_lk_getattr
  have f4 := slot_fn_ga.bind (.ref x)
  cases ex
  all_goals (
    repeat (any_goals (first | assumption | (rw [if_neg (show ¬ (true && onTheHeap (Value.builtin "object.__getattribute__")) = true by decide)]) | wp_step))
    refine codeAny_call_builtin slot_fn_ga.plain F.entry_object_getattribute (slot_fn_ga.check _ _ _ _ _ _ _ _ hT1 (args_oga _ _) (fn_object_entry hM hD hnm hv ?_))
    repeat (any_goals (first | assumption | wp_step)))
theorem fn_getMethod {pl : Sem Bool} {Q : Value × List Value → Shared → Prop} (hM : h.get? x = some (fnO fd (some D))) (hD : h.Ns D md) (hnm : typeLookup (.type "function") name = pure none) (hv : md name = some v)
    (hh : handedOut v = pure v) (hq : Q (v, []) ⟨h, g, d, t + 1, os⟩) : wpAny (model prog w) A (getMethod (.ref x) name pl) Q E ⟨h, g, d, t, os⟩ := by
  have hT : (⟨h, g, d, t, os⟩ : Shared).TypeIs (.ref x) "function" := ⟨_, hM, rfl⟩
  unfold getMethod
  refine wpAny_bind (wpAny_specialOf hT slot_fn_ga.lookup ?_)
  show wpAny _ A (if (Manifest.canonical "object.__getattribute__" != "object.__getattribute__") = true then _ else _) Q E _
  rw [canon_oga, if_neg (by decide)]
  refine wpAny_bind (wpAny_specialOf hT fn_lk_getattr ?_)
  dsimp only
  rw [if_neg (by decide)]
  refine wpAny_bind (wpAny_specialOf hT hnm ?_)
  dsimp only
  refine wpAny_bind (fn_getAttr hM hD hnm hv hh ?_)
  exact wpAny_pure hq
end
end Mine
end
section
open PySem PySem.W PyProof.Rows PySem.Calls
set_option maxRecDepth 100000
set_option maxHeartbeats 0
namespace Mine
theorem bind_one {fd : FuncData} {p : Pos} {v : Value} (h : fd.params = { posonlyargs := [], args := [{ arg := Str.ofString "queue", annotation := none, pos := p }], vararg := none, kwonlyargs := [], kw_defaults := [], kwarg := none, defaults := [] }) (hd : fd.defaults = .none) (hk : fd.kwdefaults = .none) : bindArgs fd ⟨[v], []⟩ = pure [(Str.ofString "queue", v)] := by
  cases fd
  dsimp only at h hd hk
  subst h hd hk
  with_unfolding_all rfl
section
variable {prog : Program} {w : World} {A A₀ : Around} {s : Shared} {K : Frag} {L : Addr} {h₀ base : Heap} {m mg mb : Str → Option Value} {p : Program} {loose : List Str} {mean : ExcName → Option Value}
/-- enter a lambda that stands, with everything as its ground -/
theorem callLam {env : Env} {outer : List Env} {R : Result → Shared → Prop} {name qual : Str} {params : Arguments} {body : Expr} {scope : Scope} {cl : List (Str × Addr)} {pm ctv : Value} {c' : Addr} {f : Addr} {args : Args} {binds : List (Str × Value)}
    (B : Below A₀ base outer h₀) (F : Fr h₀ L s.heap m) (X₀ : K.In h₀) (T : Top p loose mean mg mb h₀) (hA : A.frames = some (env :: outer)) (hf : env.frame = some L) (hke : env.scope.kind = .function)
    (ho : s.heap.get? f = some (kla_obj name qual params body scope cl pm c' ctv)) (hcd : s.heap.CodeRec (.ref c') qual) (hroom : A.depth < recursionLimit)
    (hbind : bindArgs (kla_fn name qual params body scope cl pm (.ref c') ctv) args = pure binds) (hloc : ∀ y ∈ binds, scope.names.lookup y.1 = some .local)
    (h : ∀ L' h₁, Fr s.heap L' h₁ (fun y => binds.reverse.lookup y) → News s.heap L' h₁ [] → Below A base (env :: outer) s.heap → K.In s.heap → Top p loose mean mg mb s.heap →
      wpAny (model prog w) (A.deeper (envX qual scope L' f (.ref c') cl)) (eval body (envX qual scope L' f (.ref c') cl))
        (fun v s' => R (.ok (.ret v)) s')
        (fun e s' => wpAny (model prog w) (A.deeper (envX qual scope L' f (.ref c') cl)) (leaving (envX qual scope L' f (.ref c') cl) e) (fun _ s'' => R (.error e) s'') (fun e' s'' => R (.error e') s'') s')
        { s with heap := h₁, toks := s.toks + binds.length })
    (hco : scope.isCoroutine = false) (hgen : scope.isGenerator = false) (hk : scope.kind = .function)
    (hcell : ∀ x ∈ scope.names, x.2 ≠ .cell) : codeAny (model prog w) A (.call (.ref f) args) R s := by
  have X := X₀.keeps F.keep
  have T' := T.keeps F.keep
  have B₁ := pushX B F hf hke
  refine kla_callFunE hroom ho rfl hco hgen rfl hcd ?_
  rw [hbind]
  refine wpAny_pure (wpAny_newFunctionEnv hcell hloc (fun h₁ hns hsb => ⟨(T'.nolimit).fresh _ hsb, ?_⟩) hk)
  show codeAny _ _ (.expr body (envX qual scope s.heap.objs.size f (.ref c') cl)) _ _
  have hk₁ : ∀ b o, s.heap.get? b = some o → h₁.get? b = some o := fun b o e => hsb.extBut b o (Nat.ne_of_lt (Heap.lt_size e)) (Heap.get?_push_of_some _ e)
  exact kla_codeExpr (h s.heap.objs.size h₁ ⟨hns, hk₁, Nat.le_refl _⟩ News.nil ⟨hA, B₁.stays, B₁.frames⟩ X T')
end
section
variable {prog : Program} {w : World} {A : Around} {E : Value → Shared → Prop} {s : Shared} {l : Addr} {vs : List Value} {Q : Value → Shared → Prop}
theorem str_eq_of {z x : Str} (h : z.cps.toList = x.cps.toList) : z = x := by
  cases z; cases x
  simp only [Str.mk.injEq]
  exact Array.toList_inj.mp h
theorem any_strs {x : Str} : ∀ {vs : List Value} {xs : List Str}, StrsAre vs xs → (vs.any fun y => match y with | .str z _ => z.cps.toList == x.cps.toList | _ => false) = decide (x ∈ xs)
  | _, _, .nil => by simp
  | _, _, .cons z t h => by
    rw [List.any_cons, any_strs h]
    by_cases e : z = x
    · subst e; simp
    · have : (z.cps.toList == x.cps.toList) = false := by
        rw [beq_eq_false_iff_ne]
        exact fun h => e (str_eq_of h)
      simp only [this, Bool.false_or, List.mem_cons, decide_eq_decide]
      constructor
      · exact .inr
      · rintro (h | h)
        · exact absurd h.symm e
        · exact h
theorem in_strs {x : Str} {t : Tok} {xs : List Str} (hl : s.heap.IsList l vs.toArray) (hS : StrsAre vs xs) (h : Q (.bool (decide (x ∈ xs))) s) : wpAny (model prog w) A (compareOp .In (.str x t) (.ref l)) Q E s := by
  refine SeqInW.in_listW (fun y => match y with | .str z _ => z.cps.toList == x.cps.toList | _ => false) (fun y hy => ?_) hl ?_
  · obtain ⟨i, hi, rfl⟩ := List.getElem_of_mem (show y ∈ vs by simpa using hy)
    obtain ⟨z, t2, e1, e2⟩ := strs_at hS (List.getElem?_eq_getElem hi)
    rw [e2]
    exact SeqRoads2.EqGives.str z x t2 t
  · rw [← Array.any_toList, show vs.toArray.toList = vs from rfl, any_strs hS]
    exact h
end
theorem nameX_G {M : Model} {A : Around} {E : Value → Shared → Prop} {s : Shared} {h₀ : Heap} {L a c : Addr} {m : Str → Option Value} {cn : Str} {cs : Scope} {ccd : Value} {cl : List (Str × Addr)} {x : Str} {v : Value} {o : Obj} {pos : Pos} {Q : Value → Shared → Prop}
    (F : Fr h₀ L s.heap m) (hc : cl.lookup x = some c) (hg : h₀.get? c = some o) (hd : o.data = .cell (some v)) (h : Q v s)
    (hk : cs.kind = .function := by rfl) (hx : (envX cn cs L a ccd cl).kindOf x = some .free := by rfl) (hb : (x == ("__debug__" : Str)) = false := by decide) (hn : (x == ("__classdict__" : Str)) = false := by decide) :
    wpAny M A (eval (.Name x pos) (envX cn cs L a ccd cl)) Q E s := wpAny_Name (wpAny_loadName_free hk hx hc ⟨_, F.keep _ _ hg, hd⟩ h hn) hb
theorem nameL {M : Model} {A : Around} {E : Value → Shared → Prop} {s : Shared} {h₀ : Heap} {L a : Addr} {m : Str → Option Value} {cn : Str} {cs : Scope} {ccd : Value} {cl : List (Str × Addr)} {x : Str} {v : Value} {pos : Pos} {Q : Value → Shared → Prop}
    (F : Fr h₀ L s.heap m) (hv : m x = some v) (h : Q v s)
    (hk : cs.kind = .function := by rfl) (hx : (envX cn cs L a ccd cl).kindOf x = some .local := by rfl) (hb : (x == ("__debug__" : Str)) = false := by decide) :
    wpAny M A (eval (.Name x pos) (envX cn cs L a ccd cl)) Q E s := wpAny_Name (wpAny_loadName_local hk hx F.ns hv h) hb
local macro_rules | `(tactic| k_room) => `(tactic| ktr_room)
theorem lam_c {w : World} {loose : List Str} {mean : ExcName → Option Value} {mg mb : Str → Option Value}
  {dp un : Nat} {gd : Option (List Code)} {cn : Str} {cs : Scope} {a : Addr} {ccd : Value} {cl : List (Str × Addr)} {outer : List Env} {A₀ : Around} {base h₀ : Heap} {L : Addr} {m : Str → Option Value} {s : Shared} {Q E : Value → Shared → Prop}
  {q f2 cx cr c2 : Addr} {vs : List Value} {xs : List Str} {kq : Nat} {ps : Arguments} {b : Expr} {sc : Scope} {pm ctv : Value} {oc2 ox orr : Obj} {x : Str} {n : Int} {tx tr : Tok}
  (B : Below A₀ base outer h₀) (F : Fr h₀ L s.heap m) (X : (hd.heap_39 w.params).In h₀) (T : Top topProg loose mean mg mb h₀) (hk : cs.kind = .function) (hdp : dp + 16 < recursionLimit) (hun : un + 128 < cLine)
  (hlam : theLam = some (ps, b, sc)) (hf : s.heap.get? f2 = some (kla_obj (Str.ofString "<lambda>") lamQual ps b sc [(Str.ofString "x", cx), (Str.ofString "reach", cr)] pm c2 ctv))
  (hc2 : s.heap.get? c2 = some oc2) (hco : CodeO oc2) (hx : s.heap.get? cx = some ox) (hxd : ox.data = .cell (some (.str x tx))) (hr : s.heap.get? cr = some orr) (hrd : orr.data = .cell (some (.int n tr)))
  (hq : s.heap.get? q = some (lstO vs.toArray kq)) (hxs : StrsAre vs xs) (hsz : vs.length ≤ 1000)
  (hret : ∀ (t' : Tok) (h' : Heap) (tk' : Nat), s.heap.StaysIn h' → Q (.int (if x ∈ xs then n else 0) t') { s with heap := h', toks := tk' }) :
  wpAny (model Challenge.rw_ij0195_02.row.prog w) (ktrTop dp un gd cn cs L a ccd cl outer) (call (.ref f2) [.ref q]) Q E s := by
  w_strict (
    (revert X; k_fill; intro X)
    have hpl := (rfl : theLam = some (_, _, _))
    rw [hpl] at hlam
    have hl2 := Option.some.inj hlam
    clear hlam
    injection hl2 with e1 e23
    injection e23 with e2 e3
    subst e1 e2 e3
    have hcr : s.heap.CodeRec (.ref c2) lamQual := by
      obtain ⟨vs, t, e1, e2⟩ := hco
      exact ⟨c2, oc2, vs, t, rfl, hc2, e1, e2⟩
    refine wpAny_call ?_
    refine' callLam ?k1 ?k2 ?k3 ?k5 ?kA ?kF ?kK hf hcr ?k8 ?k9 ?kB ?_ ?c2 ?c3 ?c4 ?c5
    (case kA => exact rfl); (case kF => exact rfl); (case kK => assumption); (case k1 => k_asm); (case k2 => k_asm); (case k3 => k_asm); (case k5 => k_asm); (case k8 => ktr_room); (case k9 => exact bind_one rfl rfl rfl); (case c5 => decide); (case kB => exact locs rfl); (case c2 => exact rfl); (case c3 => exact rfl); (case c4 => exact rfl)
    k_whole
    intro L' h' F' N' B' X' T'
    (try dsimp only)
    (try k_lift B')
    (try k_fold)
    (first | (k_unfold; (try dsimp only)) | walk1 | (dsimp only; walk1) | (leave1; walk_say "STEP leave1"; try dsimp only))
    (first | (k_unfold; (try dsimp only)) | walk1 | (dsimp only; walk1) | (leave1; walk_say "STEP leave1"; try dsimp only))
    refine nameX_G F' rfl hx hxd ?_
    (try dsimp only)
    refine nameL F' rfl ?_
    (try dsimp only)
    refine in_strs (s := { s with heap := h', toks := _ }) ⟨_, F'.keep _ _ hq, rfl, kq, rfl⟩ hxs ?_
    (try dsimp only)
    refine wpAny_truthy_bool ?_
    by_cases hxi : x ∈ xs
    · rw [if_pos (show decide (x ∈ xs) = true by simpa using hxi)]
      refine nameX_G F' rfl hr hrd ?_
      (try dsimp only)
      have e : (.int n tr : Value) = .int (if x ∈ xs then n else 0) tr := by rw [if_pos hxi]
      show Q (.int n tr) _
      rw [e]
      exact hret tr h' _ F'.keep
    · rw [if_neg (show ¬ decide (x ∈ xs) = true by simpa using hxi)]
      refine wpAny_Constant_int ?_
      (try dsimp only)
      have e : ∀ t', (.int 0 t' : Value) = .int (if x ∈ xs then n else 0) t' := fun t' => by rw [if_neg hxi]
      show Q (.int 0 _) _
      rw [e]
      exact hret _ h' _ F'.keep)
end Mine
end
section
open PySem PySem.W PyProof.Rows PySem.Calls
set_option maxRecDepth 100000
set_option maxHeartbeats 0
namespace Mine
section
variable {prog : Program} {w : World} {A : Around} {E : Value → Shared → Prop} {s : Shared} {env : Env} {h₀ : Heap} {x : Str} {body : List Stmt} {Q : Flow → Shared → Prop}
/-- a for over a list that stands in the ground: J tells what the turns so far say of the names -/
theorem iter_ground {l : Addr} {vs : List Value} {m₀ : Str → Option Value} {news : List (Addr × Obj)} (J : Nat → (Str → Option Value) → Prop)
    (hh : A.handled = none) (hl : h₀.IsList l vs.toArray) (F : Fr h₀ env.locals s.heap m₀) (N : News h₀ env.locals s.heap news) (hj : J 0 m₀)
    (turn : ∀ i v h tk own mT, vs[i]? = some v → J i mT → Fr h₀ env.locals h (fun y => if y = x then some v else mT y) → News h₀ env.locals h (own ++ news) →
      wpAny (model prog w) A (execs body env) (InvPost h₀ env.locals (J (i + 1)) (own ++ news) { s with heap := h, toks := tk } Q) E { s with heap := h, toks := tk })
    (done : ∀ mT h tk, J vs.length mT → Fr h₀ env.locals h mT → News h₀ env.locals h news → Q .next { s with heap := h, toks := tk }) :
    wpAny (model prog w) A (pyIter (.ref l)) (fun it s₂ => LoopAtV prog w A h₀ env x body Q E it s₂) E s := by
  have hls : s.heap.IsList l vs.toArray := hl.at fun o e => F.keep l o e
  obtain ⟨ol, hol, _⟩ := id hl
  have hlt : l < h₀.objs.size := Heap.lt_size hol
  have hne : l ≠ s.heap.objs.size := Nat.ne_of_lt (Nat.lt_trans (Nat.lt_of_lt_of_le hlt F.above) F.ns.lt)
  refine wpAny_pyIter_list hls ?_
  have W := Walks.list (prog := prog) (w := w) hh s.heap.objs.size l hne vs.toArray
  have hlen : vs.toArray.size = vs.length := by simp
  rw [hlen] at W
  let J' : Nat → (Str → Option Value) → List (Addr × Obj) → Prop := fun i m₁ news₁ => news₁ = news ∧ J i m₁
  refine ⟨_, _, _, vs.length, _, _, m₀, news, J', rfl, W, ?_, ?_, ?_, ⟨⟨_, Heap.get?_push_size _ rfl, rfl, rfl⟩, hls.at fun o e => Heap.get?_push_of_some _ e⟩, F.push _, (fun p hp => ⟨Heap.get?_push_of_some _ (N p hp).1, (N p hp).2⟩), ⟨rfl, hj⟩, ?_, ?_⟩
  · intro hm
    rcases List.mem_cons.mp hm with e | hm
    · exact absurd F.ns.lt (e ▸ Nat.lt_irrefl _)
    · exact absurd (Nat.lt_of_lt_of_le hlt F.above) ((List.mem_singleton.mp hm) ▸ Nat.lt_irrefl _)
  · intro b hb
    rw [List.mem_singleton.mp hb]
    exact next_is_new F
  · intro p hp hI
    exact absurd (Heap.lt_size (N p hp).1) ((List.mem_singleton.mp hI) ▸ Nat.lt_irrefl _)
  · rintro i v m₁ news₁ s₁ own ⟨hh', tk', rfl⟩ hin hP ⟨rfl, hJ⟩ hoff _ _ _ _ F₁ N₁
    have hv : vs[i]? = some v := by simpa using hP
    refine wpAny_mono (turn i v hh' tk' own m₁ hv hJ F₁ N₁) (fun f s₂ p => ?_) fun _ _ e => e
    have fin : InvEnd h₀ env.locals (J (i + 1)) (own ++ news₁) { s with heap := hh', toks := tk' } s₂ → LoopStepU h₀ env.locals [s.heap.objs.size] own (J' (i + 1)) { s with heap := hh', toks := tk' } .next s₂ := by
      rintro ⟨h', tk, m', news', e, F', N', hn, hm⟩
      exact ⟨rfl, h', tk, m', news₁, e, F', fun p hp => N' p (hn p hp), hoff, rfl, hm⟩
    cases f with
    | ret v => exact .ret p
    | brk => exact .brk p
    | next => exact .next (fin p)
    | cont => exact .cont (fin p)
  · rintro h' tk m' news' F' N' _ ⟨rfl, hJ⟩
    exact done m' h' tk hJ F' N'
end
abbrev s_bm := Str.ofString "best_match"
abbrev s_al := Str.ofString "allowance"
abbrev s_m := Str.ofString "m"
abbrev s_line := Str.ofString "line"
def map4 (a b c d : Str) (m : Str → Option Value) (u v w z : Option Value) : Str → Option Value := fun y => if y = a then u else if y = b then v else if y = c then w else if y = d then z else m y
theorem map4_of {a b c d : Str} {m m' : Str → Option Value} (h : ∀ y, y ≠ a → y ≠ b → y ≠ c → y ≠ d → m' y = m y) : m' = map4 a b c d m (m' a) (m' b) (m' c) (m' d) := by
  funext y
  unfold map4
  split
  · rename_i h; rw [h]
  · split
    · rename_i h; rw [h]
    · split
      · rename_i h; rw [h]
      · split
        · rename_i h; rw [h]
        · exact h y (by assumption) (by assumption) (by assumption) (by assumption)
def aStep (q : List Str) (st : Int × Option Str) (r : Str × Int × Str) : Int × Option Str :=
  let m := if r.1 ∈ q then r.2.1 else 0
  if m = 0 then st else if st.1 < m then (m, some r.2.2) else if m = st.1 ∧ st.2 = some (Str.ofString "") then (m, some r.2.2) else st
def aFold (q : List Str) (rs : List (Str × Int × Str)) : Int × Option Str := rs.foldl (aStep q) (-1, none)
def IsV (o : Option Str) (v : Value) : Prop := match o with
  | none => v = .bool true
  | some z => ∃ t, v = .str z t
inductive JA (m₀ : Str → Option Value) (q : List Str) (rs : List (Str × Int × Str)) (i : Nat) (mT : Str → Option Value) : Prop
  | mk (t : Tok) (va : Value) (u3 u4 : Option Value) (q1 : mT = map4 s_bm s_al s_m s_line m₀ (some (.int (aFold q (rs.take i)).1 t)) (some va) u3 u4) (q2 : IsV (aFold q (rs.take i)).2 va) : JA m₀ q rs i mT
theorem JA_of {m₀ m' : Str → Option Value} {q : List Str} {rs : List (Str × Int × Str)} {i : Nat} {b : Int} {t : Tok} {va : Value} (h : ∀ y, y ≠ s_bm → y ≠ s_al → y ≠ s_m → y ≠ s_line → m' y = m₀ y) (h1 : m' s_bm = some (.int b t)) (h2 : m' s_al = some va) (e : b = (aFold q (rs.take i)).1) (hv : IsV (aFold q (rs.take i)).2 va) : JA m₀ q rs i m' :=
  ⟨t, va, m' s_m, m' s_line, by rw [← e, ← h1, ← h2]; exact map4_of h, hv⟩
theorem paired_at {α β : Type} {F : α → β → Prop} {a : List α} {b : List β} (h : Paired F a b) : ∀ {i : Nat} {v : β}, b[i]? = some v → ∃ x, a[i]? = some x ∧ F x v := by
  induction h with
  | nil => intro i v e; simp at e
  | cons e _ ih =>
    intro i v e2
    cases i with
    | zero => exact ⟨_, rfl, (Option.some.inj e2) ▸ e⟩
    | succ i => exact ih e2
theorem aFold_next {q : List Str} {rs : List (Str × Int × Str)} {i : Nat} {r : Str × Int × Str} (h : rs[i]? = some r) : aFold q (rs.take (i + 1)) = aStep q (aFold q (rs.take i)) r := by
  unfold aFold
  rw [List.take_succ, h, List.foldl_append]
  rfl
theorem aStep_small {q : List Str} {st : Int × Option Str} {r : Str × Int × Str} {N : Nat} (h : ∀ z, st.2 = some z → z.length ≤ N) (hr : r.2.2.length ≤ N) : ∀ z, (aStep q st r).2 = some z → z.length ≤ N := by
  intro z
  unfold aStep
  dsimp only
  generalize (if r.1 ∈ q then r.2.1 else 0) = mv
  split
  · exact h z
  · split
    · intro e; cases e; exact hr
    · split
      · intro e; cases e; exact hr
      · exact h z
theorem aFold_small {q : List Str} {N : Nat} {rs : List (Str × Int × Str)} (h : ∀ r ∈ rs, r.2.2.length ≤ N) : ∀ z, (aFold q rs).2 = some z → z.length ≤ N := by
  have go : ∀ (rs : List (Str × Int × Str)) (st : Int × Option Str), (∀ r ∈ rs, r.2.2.length ≤ N) → (∀ z, st.2 = some z → z.length ≤ N) → ∀ z, (rs.foldl (aStep q) st).2 = some z → z.length ≤ N := by
    intro rs
    induction rs with
    | nil => intro st _ h; exact h
    | cons r rs ih => intro st h1 h2; exact ih _ (fun r hr => h1 r (.tail _ hr)) (aStep_small h2 (h1 r (.head _)))
  exact go rs _ h (by intro z e; cases e)
theorem truthy_V {prog : Program} {w : World} {A : Around} {E : Value → Shared → Prop} {s : Shared} {o : Option Str} {va : Value} {Q : Bool → Shared → Prop} (hv : IsV o va) (hz : ∀ z, o = some z → z.length ≤ 1000) (h : ∀ k, Q (decide (o ≠ some (Str.ofString ""))) { s with toks := k }) : wpAny (model prog w) A (truthy va) Q E s := by
  cases o with
  | none => cases hv; exact wpAny_truthy_bool (h s.toks)
  | some z =>
    obtain ⟨t, rfl⟩ := hv
    have h1 := hz z rfl
    refine SBL.truthy (by omega) ?_
    have e : ((z.length : Int) != 0) = decide ((some z : Option Str) ≠ some (Str.ofString "")) := by
      have : (Str.ofString "") = ⟨#[]⟩ := by decide
      rw [this]
      obtain ⟨c⟩ := z
      rw [Bool.eq_iff_iff]
      simp [Str.length]
    rw [e]; exact h _
theorem step_0 {q : List Str} {st : Int × Option Str} {r : Str × Int × Str} {vm : Int} (em : vm = if r.1 ∈ q then r.2.1 else 0) (h : vm = 0) : aStep q st r = st := by
  unfold aStep; dsimp only; rw [← em, if_pos h]
theorem step_1 {q : List Str} {st : Int × Option Str} {r : Str × Int × Str} {vm : Int} (em : vm = if r.1 ∈ q then r.2.1 else 0) (h : vm ≠ 0) (h1 : st.1 < vm) : aStep q st r = (vm, some r.2.2) := by
  unfold aStep; dsimp only; rw [← em, if_neg h, if_pos h1]
theorem step_2 {q : List Str} {st : Int × Option Str} {r : Str × Int × Str} {vm : Int} (em : vm = if r.1 ∈ q then r.2.1 else 0) (h : vm ≠ 0) (h1 : ¬ st.1 < vm) (h2 : vm = st.1) (h3 : st.2 = some (Str.ofString "")) : aStep q st r = (vm, some r.2.2) := by
  unfold aStep; dsimp only; rw [← em, if_neg h, if_neg h1, if_pos ⟨h2, h3⟩]
theorem step_3 {q : List Str} {st : Int × Option Str} {r : Str × Int × Str} {vm : Int} (em : vm = if r.1 ∈ q then r.2.1 else 0) (h : vm ≠ 0) (h1 : ¬ st.1 < vm) (h2 : ¬ (vm = st.1 ∧ st.2 = some (Str.ofString ""))) : aStep q st r = st := by
  unfold aStep; dsimp only; rw [← em, if_neg h, if_neg h1, if_neg h2]
section
variable {prog : Program} {w : World} {A : Around} {E : Value → Shared → Prop} {s : Shared} {h₀ : Heap} {L : Addr} {m : Str → Option Value} {x D f2 : Addr} {oD : Obj} {fd : FuncData} {v : Str} {tv : Tok}
def ruleNs (v : Str) (tv : Tok) (f2 : Addr) : Str → Option Value := fun y => if y = Str.ofString "allowance" then some (.str v tv) else if y = Str.ofString "applies_to" then some (.ref f2) else none
theorem rule_method {pl : Sem Bool} {Q : Value × List Value → Shared → Prop} (hM : h₀.get? x = some (fnO fd (some D))) (F : Fr h₀ L s.heap m) (hD : h₀.get? D = some oD) (hN : NsO oD (ruleNs v tv f2))
    (hq : Q (.ref f2, []) { s with toks := s.toks + 1 }) : wpAny (model prog w) A (getMethod (.ref x) (Str.ofString "applies_to") pl) Q E s :=
  fn_getMethod (F.keep _ _ hM) (hN.at (F.keep _ _ hD)).ns fn_no_applies (by unfold ruleNs; rw [if_neg (by decide), if_pos rfl]) rfl hq
theorem rule_attr {ex : Bool} {Q : Value → Shared → Prop} (hM : h₀.get? x = some (fnO fd (some D))) (F : Fr h₀ L s.heap m) (hD : h₀.get? D = some oD) (hN : NsO oD (ruleNs v tv f2))
    (hq : Q (.str v tv) { s with toks := s.toks + 1 }) : wpAny (model prog w) A (getAttr (.ref x) (Str.ofString "allowance") ex) Q E s :=
  fn_getAttr (F.keep _ _ hM) (hN.at (F.keep _ _ hD)).ns fn_no_allowance (by unfold ruleNs; rw [if_pos rfl]) rfl hq
end
theorem fn_at {h₀ h : Heap} {L f2 c2 : Addr} {m : Str → Option Value} {ps : Arguments} {b : Expr} {sc : Scope} {nm q : Str} {cl : List (Str × Addr)} {pm ctv : Value} (hf : h₀.get? f2 = some (kla_obj nm q ps b sc cl pm c2 ctv)) (F : Fr h₀ L h m) : FnAt f2 h := ⟨_, _, _, _, F.keep _ _ hf⟩
local macro_rules | `(tactic| walk_at "callWith ref") => `(tactic| (k_here; refine callWith_F (fn_at (by assumption) (by k_asm)) ?_))
local macro_rules | `(tactic| walk_at "FnAt") => `(tactic| exact fn_at (by assumption) (by k_asm))
local macro_rules | `(tactic| walk_at "getMethod ref") => `(tactic| (k_here; refine rule_method (by assumption) (by k_asm) (by assumption) (by assumption) ?_; dsimp only))
local macro_rules | `(tactic| walk_at "getAttr ref") => `(tactic| (k_here; refine rule_attr (by assumption) (by k_asm) (by assumption) (by assumption) ?_))
local macro_rules | `(tactic| walk_at "call ref") => `(tactic| ((with_reducible show wpAny _ _ (call (Value.ref _) [_]) _ _ _); refine hold_ ?_))
local macro_rules | `(tactic| k_room) => `(tactic| ktr_room)
local macro_rules | `(tactic| k_inst) => `(tactic| exact inst_up (by assumption) (Fr.keep (by k_asm)))
local macro_rules | `(tactic| k_get) => `(tactic| assumption)
theorem allowance_c {w : World} {loose : List Str} {mean : ExcName → Option Value} {mg mb : Str → Option Value}
  {dp un : Nat} {gd : Option (List Code)} {cn : Str} {cs : Scope} {a : Addr} {ccd : Value} {cl : List (Str × Addr)} {outer : List Env} {A₀ : Around} {base h₀ : Heap} {L : Addr} {m : Str → Option Value} {s : Shared} {Q E : Value → Shared → Prop}
  {one d l q : Addr} {es : List DictEntry} {n kq k : Nat} {us vs : List Value} {rs : List (Str × Int × Str)} {xs : List Str}
  (B : Below A₀ base outer h₀) (F : Fr h₀ L s.heap m) (X : (hd.heap_39 w.params).In h₀) (T : Top topProg loose mean mg mb h₀) (hk : cs.kind = .function) (hdp : dp + 32 < recursionLimit) (hun : un + 256 < cLine)
  (I : InstAt s.heap one (instObj 52 d) 52 (some (dictOf es n)))
  (he : getL "rulelines" es = some (some (.ref l))) (hl : s.heap.get? l = some (lstO us.toArray k)) (hr : Paired (fun r u => ∃ a, u = .ref a ∧ RuleH s.heap a r.1 r.2.1 r.2.2) rs us) (hrl : us.length ≤ 1000) (hrz : ∀ r ∈ rs, r.2.2.length ≤ 1000)
  (hq : s.heap.get? q = some (lstO vs.toArray kq)) (hxs : StrsAre vs xs) (hsz : vs.length ≤ 1000)
  (hret : ∀ v h' tk', IsV (aFold xs rs).2 v → s.heap.StaysIn h' → Q v { s with heap := h', toks := tk' }) :
  wpAny (model Challenge.rw_ij0195_02.row.prog w) (ktrTop dp un gd cn cs L a ccd cl outer) (call (.ref 49) [.ref one, .ref q]) Q E s := by
  w_strict (
    (revert X; k_fill; intro X)
    refine wpAny_call ?_
    refine' callP ?k1 ?k2 ?k3 ?k5 ?kA ?kF ?kK ?k6 ?k7 ?k8 ?k9 ?kB ?_ ?c2 ?c3 ?c4 ?c5
    (case kA => exact rfl); (case kF => exact rfl); (case kK => assumption); (case k1 => k_asm); (case k2 => k_asm); (case k3 => k_asm); (case k5 => k_asm); (case k6 => k_is); (case k7 => k_is); (case k8 => ktr_room); (case k9 => exact BindsTo.of_eq rfl); (case c5 => decide); (case kB => exact locs rfl); (case c2 => exact rfl); (case c3 => exact rfl); (case c4 => exact rfl)
    k_whole
    intro L' h' F' N' B' X' T'
    (try dsimp only)
    (try k_lift B')
    (try k_fold)
    k_steps
    with_reducible rename Fr _ _ _ _ => F1
    with_reducible rename News _ _ _ _ => N1
    with_unfolding_all refine iter_ground (JA _ xs rs) rfl ⟨_, hl, rfl, k, rfl⟩ F1 N1 (JA_of (fun y h1 h2 h3 h4 => rfl) rfl rfl rfl rfl) ?turn ?done
    (case done =>
      intro mT hT tkT HJ FT NT
      obtain ⟨t0, va, u3, u4, rfl, hva⟩ := HJ
      rw [hr.length.symm, List.take_length] at hva
      k_steps
      exact hret _ _ _ hva (Fr.keep (by assumption)))
    (case turn =>
      intro iT vT hT tkT own mT hvT HJ FT NT
      obtain ⟨t0, va, u3, u4, rfl, hva⟩ := HJ
      obtain ⟨r, hrT, aR, e, c2, oc2, hc2, hco, ps, b, sc, fd, dd, f2, cx, cr, oD, ox, orr, tv, tx, tr, pm, ctv, hlam, hfr, hfd, hND, hf2, hcx, hcxd, hcr, hcrd⟩ := paired_at hr hvT
      subst e
      k_steps
      refine of_hold ?_
      with_reducible rename Fr _ _ _ _ => F2
      with_reducible rename News _ _ _ _ => N2
      with_unfolding_all refine' lam_c (n := r.2.1) (x := r.1) (xs := xs) (vs := vs) ?k1 F2 ?k3 ?k4 ?k5 ?k6 ?k7 hlam (F2.keep _ _ hf2) (F2.keep _ _ hc2) hco (F2.keep _ _ hcx) hcxd (F2.keep _ _ hcr) hcrd (F2.keep _ _ hq) hxs hsz ?_
      (case k1 => exact B')
      (case k3 => k_asm)
      (case k4 => k_asm)
      (case k5 => exact rfl)
      (case k6 => ktr_room)
      (case k7 => ktr_units)
      intro t3 h3 k3 st3
      have F3 := F2.keeps st3
      have N3 : News _ _ h3 _ := fun p hp => ⟨st3 _ _ (N2 p hp).1, (N2 p hp).2⟩
      clear F2 N2
      obtain ⟨vm, em⟩ : ∃ vm, vm = (if r.1 ∈ xs then r.2.1 else 0) := ⟨_, rfl⟩
      rw [← em]
      k_steps
      · refine InvEnd.intro (by assumption) (by assumption) (fun p hp => hp) (JA_of (fun y h1 h2 h3 h4 => by simp [map4, h1, h2, h3, h4]) rfl rfl ?_ ?_)
        · rw [aFold_next hrT, step_1 em (by assumption) (by assumption)]
        · rw [aFold_next hrT, step_1 em (by assumption) (by assumption)]; exact ⟨_, rfl⟩
      · refine truthy_V hva (aFold_small fun r hr => hrz r (List.mem_of_mem_take hr)) fun tk5 => ?_
        dsimp only
        by_cases hem : (aFold xs (rs.take iT)).2 = some (Str.ofString "")
        · rw [show (!decide ((aFold xs (rs.take iT)).2 ≠ some (Str.ofString ""))) = true by simpa using hem, if_pos rfl]
          k_steps
          refine InvEnd.intro (by assumption) (by assumption) (fun p hp => hp) (JA_of (fun y h1 h2 h3 h4 => by simp [map4, h1, h2, h3, h4]) rfl rfl ?_ ?_)
          · rw [aFold_next hrT, step_2 em (by assumption) (by assumption) (by assumption) hem]; exact Eq.symm (by assumption)
          · rw [aFold_next hrT, step_2 em (by assumption) (by assumption) (by assumption) hem]; exact ⟨_, rfl⟩
        · rw [show (!decide ((aFold xs (rs.take iT)).2 ≠ some (Str.ofString ""))) = false by simpa using hem, if_neg (by decide)]
          k_steps
          refine InvEnd.intro (by assumption) (by assumption) (fun p hp => hp) (JA_of (fun y h1 h2 h3 h4 => by simp [map4, h1, h2, h3, h4]) rfl rfl ?_ ?_)
          · rw [aFold_next hrT, step_3 em (by assumption) (by assumption) (fun h => hem h.2)]
          · rw [aFold_next hrT, step_3 em (by assumption) (by assumption) (fun h => hem h.2)]; exact hva
      · refine InvEnd.intro (by assumption) (by assumption) (fun p hp => hp) (JA_of (fun y h1 h2 h3 h4 => by simp [map4, h1, h2, h3, h4]) rfl rfl ?_ ?_)
        · rw [aFold_next hrT, step_3 em (by assumption) (by assumption) (fun h => absurd h.1 (by assumption))]
        · rw [aFold_next hrT, step_3 em (by assumption) (by assumption) (fun h => absurd h.1 (by assumption))]; exact hva
      · refine InvEnd.intro (by assumption) (by assumption) (fun p hp => hp) (JA_of (fun y h1 h2 h3 h4 => by simp [map4, h1, h2, h3, h4]) rfl rfl ?_ ?_)
        · rw [aFold_next hrT, step_0 em (by assumption)]
        · rw [aFold_next hrT, step_0 em (by assumption)]; exact hva))
end Mine
end
section
open PySem PySem.W PyProof.Rows PySem.Calls
set_option maxRecDepth 100000
set_option maxHeartbeats 0
namespace Mine
/-- what a turn with a ledger leaves -/
inductive LedStep (ex : Addr → Prop) (h₀ : Heap) (L : Addr) (m : Str → Option Value) (J : List Value → List (Addr × Obj) → Prop) (us : List Value) (nw : List (Addr × Obj)) (s₂ : Shared) (u : Value) (s₃ : Shared) : Prop
  | mk (H' : Heap) (tk' : Nat) (nw' : List (Addr × Obj)) (q1 : s₃ = { s₂ with heap := H', toks := tk' }) (q2 : Fr h₀ L H' m) (q3 : News h₀ L H' nw') (q4 : J (us ++ [u]) nw') (q5 : (∀ b o, ¬ ex b → s₂.heap.get? b = some o → H'.get? b = some o)) (q6 : (∀ p ∈ nw', p ∈ nw ∨ ex p.1 ∨ s₂.heap.get? p.1 = none)) : LedStep ex h₀ L m J us nw s₂ u s₃
section
variable {prog : Program} {w : World} {A : Around} {s : Shared} {elt : Expr} {x : Str} {px : Pos} {cenv : Env} {R : Result → Shared → Prop}
/-- a code that goes round: next, store, the element, append -/
def LoopRule (prog : Program) (w : World) (A : Around) (x : Str) (px : Pos) (elt : Expr) (I D : Addr) (cenv : Env) (R : Result → Shared → Prop) (c : Code) : Prop :=
  ∃ E : Value → Shared → Prop, ∀ (Inv : Nat → Shared → Prop), (∀ n s, Inv n s → wpAny (model prog w) A (pyNext (.ref I)) (fun r s₁ => match r with
      | none => R (.ok .next) s₁
      | some v => wpAny (model prog w) A (assign (.Name x px) cenv v) (fun _ s₂ => wpAny (model prog w) A (eval elt cenv) (fun u s₄ =>
          wpAny (model prog w) A (call (.builtin "list.append") [.ref D, u]) (fun _ s₅ => ∃ m, m < n ∧ Inv m s₅) E s₄) E s₂) E s₁) E s) → ∀ n s, Inv n s → codeAny (model prog w) A c R s
theorem rule_one {iter : Expr} {scope : Scope} {pos : Pos} {I D : Addr} : LoopRule prog w A x px elt I D cenv R (.compLoop (.ListComp elt [⟨.Name x px, iter, [], 0⟩] scope pos) 0 (.ref I) (.ref D) cenv) :=
  ⟨notedBy (model prog w) A cenv fun e s' => R (.error e) s', fun Inv turn n s h => codeAny_compLoop_tests Inv (fun n s hI => wpAny_mono (turn n s hI) (fun r s₁ h₁ => by
    cases r with
    | none => exact h₁
    | some v => exact wpAny_mono h₁ (fun _ s₂ h₂ => wpAny_pure (by rw [if_pos rfl]; exact h₂)) fun _ _ e => e) fun _ _ e => e) n h⟩
theorem rule_inner {i1 i2 : Expr} {y : Str} {py : Pos} {scope : Scope} {pos : Pos} {I D : Addr} : LoopRule prog w A y py elt I D cenv R (.compLoop (E2 elt x px i1 y py i2 [] scope pos) 1 (.ref I) (.ref D) cenv) :=
  ⟨notedBy (model prog w) A cenv fun e s' => R (.error e) s', fun Inv turn n s h => codeAny_loop rfl Inv (fun n s hI => by
    show wpAny _ A ((compTurn (E2 elt x px i1 y py i2 [] scope pos) 1 (.ref I) (.ref D) cenv).onRaise (fun x => do noteFrame x cenv; theTreesLotGoes x)) _ _ _
    refine wpAny_noted ?_
    rw [turn_inner]
    refine wpAny_bind (wpAny_standAt (wpAny_bind (wpAny_mono (turn n s hI) (fun r s₁ h₁ => ?_) fun _ _ e => e)))
    cases r with
    | none => exact wpAny_pure h₁
    | some v =>
      refine wpAny_bind (wpAny_of_eq (a := ()) (by rfl) (wpAny_bind (wpAny_mono h₁ (fun _ s₂ h₂ => ?_) fun _ _ e => e)))
      refine wpAny_bind (wpAny_pure ?_)
      simp only [if_true]
      refine wpAny_bind (wpAny_bind (wpAny_mono h₂ (fun u s₃ h₃ => ?_) fun _ _ e => e))
      exact wpAny_bind (wpAny_mono h₃ (fun _ s₄ h₄ => wpAny_pure (wpAny_pure ⟨rfl, h₄⟩)) fun _ _ e => e)) n h⟩
theorem led_loop {I D C L : Addr} {fp : List Addr} {n : Nat} {P : Nat → Value → Prop} {St : Nat → Heap → Prop} {mc m : Str → Option Value} {h₀ : Heap} {ex : Addr → Prop} {c : Code} {us₀ : List Value} {news : List (Addr × Obj)}
    (W : Walks prog w A I fp [I] n P St) (hIp : ∀ i h, St i h → h.get? I ≠ none) (J : Nat → List Value → List (Addr × Obj) → Prop) (hc : LoopRule prog w A x px elt I D cenv R c)
    (hloc : cenv.locals = C) (hx : cenv.kindOf x = some .local) (hp : (cenv.scope.kind == .class || (cenv.scope.kind == .module && cenv.locals != cenv.globals)) = false)
    (hDC : D ≠ C) (hDf : D ∉ fp) (hCf : C ∉ fp) (exf : ∀ b ∈ fp, ¬ ex b) (exC : ¬ ex C) (exD : ¬ ex D)
    (hst : St 0 s.heap) (hacc : s.heap.PlainList D us₀.toArray) (hn : s.heap.Ns C mc) (hsz : us₀.length + n ≤ sizeLine)
    (F : Fr h₀ L s.heap m) (N : News h₀ L s.heap news) (hC0 : h₀.get? C = none) (hCL : C ≠ L) (hD0 : h₀.get? D = none) (hDL : D ≠ L) (hI0 : h₀.get? I = none) (hIL : I ≠ L)
    (off : ∀ p ∈ news, p.1 ≠ C ∧ p.1 ≠ D ∧ p.1 ≠ I) (hJ : J 0 us₀ news)
    (turn : ∀ (i : Nat) (v : Value) (us : List Value) (nw : List (Addr × Obj)) (oC : Obj) (mC : Str → Option Value) (s₂ : Shared) (E' : Value → Shared → Prop), i < n → P i v → J i us nw → LCg.NsObj oC mC → mC x = some v → Fr h₀ L s₂.heap m → News h₀ L s₂.heap ((C, oC) :: nw) → (∀ p ∈ nw, p.1 ≠ C) →
      wpAny (model prog w) A (eval elt cenv) (LedStep ex h₀ L m (J (i + 1)) us nw s₂) E' s₂)
    (hR : ∀ h' tk mC us nw, h'.Ns C mC → h'.PlainList D us.toArray → J n us nw → Fr h₀ L h' m → News h₀ L h' nw → (∀ p ∈ nw, p.1 ≠ C ∧ p.1 ≠ D ∧ p.1 ≠ I) →
      (∀ b o, ¬ ex b → b ≠ C → b ≠ I → b ≠ D → s.heap.get? b = some o → h'.get? b = some o) → R (.ok .next) { s with heap := h', toks := tk }) :
    codeAny (model prog w) A c R s := by
  have hIf : I ∈ fp := W.sub I (List.mem_singleton.mpr rfl)
  have hCI : C ≠ I := fun e => hCf (e ▸ hIf)
  have hDI : D ≠ I := fun e => hDf (e ▸ hIf)
  have exI : ¬ ex I := exf I hIf
  obtain ⟨E, hc⟩ := hc
  refine hc (fun k s' => ∃ (h' : Heap) (tk i : Nat) (mC : Str → Option Value) (us : List Value) (nw : List (Addr × Obj)), s' = { s with heap := h', toks := tk } ∧ i ≤ n ∧ k = n - i ∧ us.length = us₀.length + i ∧ St i h' ∧ h'.PlainList D us.toArray ∧ h'.Ns C mC ∧
      J i us nw ∧ Fr h₀ L h' m ∧ News h₀ L h' nw ∧ (∀ p ∈ nw, p.1 ≠ C ∧ p.1 ≠ D ∧ p.1 ≠ I) ∧ (∀ b o, ¬ ex b → b ≠ C → b ≠ I → b ≠ D → s.heap.get? b = some o → h'.get? b = some o)) ?_ n s
    ⟨s.heap, s.toks, 0, mc, us₀, news, rfl, Nat.zero_le _, rfl, rfl, hst, hacc, hn, hJ, F, N, off, fun _ _ _ _ _ _ e => e⟩
  rintro k s' ⟨H, tk, i, mC, us, nw, rfl, hi, rfl, hul, hst', hacc', hn', hJ', F', N', off', hk⟩
  by_cases hlt : i < n
  · refine W.item i _ _ _ hlt hst' fun v h₁ tk₁ hPv hst₁ hk₁ => ?_
    have kI : ∀ b o, b ≠ I → H.get? b = some o → h₁.get? b = some o := fun b o hb e => hk₁ b o (fun hm => hb (List.mem_singleton.mp hm)) e
    refine wpAny_assign_Name (wpAny_storeName_local hx (hloc.symm ▸ hn'.at' fun o e => kI _ o hCI e) (fun h₂ hn₂ hs₂ => ?_) hp)
    rw [hloc] at hn₂ hs₂
    have up₂ : ∀ b o, b ≠ C → b ≠ I → H.get? b = some o → h₂.get? b = some o := fun b o hbC hbI e => hs₂.extBut b o hbC (kI b o hbI e)
    have hst₂ : St (i + 1) h₂ := W.frame _ _ _ hst₁ fun b hb o e => hs₂.extBut b o (fun h => hCf (h ▸ hb)) e
    have ne0 : ∀ {b o a}, h₀.get? a = none → h₀.get? b = some o → b ≠ a := fun ha hb e => by rw [e, ha] at hb; cases hb
    have F₂ : Fr h₀ L h₂ m := ⟨F'.ns.at' fun o e => up₂ _ o (Ne.symm hCL) (Ne.symm hIL) e, fun b o e => up₂ b o (ne0 hC0 e) (ne0 hI0 e) (F'.keep b o e), F'.above⟩
    have N₂ : News h₀ L h₂ nw := fun p hp => ⟨up₂ _ _ (off' p hp).1 (off' p hp).2.2 (N' p hp).1, (N' p hp).2⟩
    obtain ⟨oC, hoC, hns⟩ := LCg.ns_obj hn₂
    refine wpAny_mono (turn i v us nw oC _ { s with heap := h₂, toks := tk₁ + 1 } E hlt hPv hJ' hns (if_pos rfl) F₂ (fun p hp => by
      rcases List.mem_cons.mp hp with rfl | hp
      · exact ⟨hoC, hCL, hC0⟩
      · exact N₂ p hp) fun p hp => (off' p hp).1) (fun u s₃ h₃ => ?_) fun _ _ e => e
    obtain ⟨h₃, tk₃, nw', rfl, F₃, N₃, hJ₃, k₃, came⟩ := h₃
    have hacc₂ : h₂.PlainList D us.toArray := hacc'.at fun o e => up₂ _ o hDC hDI e
    have hacc₃ : h₃.PlainList D us.toArray := hacc₂.at fun o e => k₃ _ o exD e
    have hst₃ : St (i + 1) h₃ := W.frame _ _ _ hst₂ fun b hb o e => k₃ b o (exf b hb) e
    have hn₃ := hn₂.at' (h' := h₃) fun o e => k₃ _ o exC e
    refine wpAny_list_append_plain (hsz := by rw [List.size_toArray]; omega) hacc₃ fun h₅ hl₅ hs₅ => ?_
    have offn : ∀ p ∈ nw', p.1 ≠ C ∧ p.1 ≠ D ∧ p.1 ≠ I := fun p hp => by
      rcases came p hp with q | q | q
      · exact off' p q
      · exact ⟨fun e => exC (e ▸ q), fun e => exD (e ▸ q), fun e => exI (e ▸ q)⟩
      · refine ⟨fun e => ?_, fun e => ?_, fun e => hIp _ _ hst₂ (e ▸ q)⟩
        · rw [e] at q; exact absurd (hoC.symm.trans q) (by simp)
        · obtain ⟨n2, e2⟩ := hacc₂
          rw [e] at q; exact absurd (e2.symm.trans q) (by simp)
    refine ⟨n - (i + 1), by omega, h₅, _, i + 1, _, us ++ [u], nw', rfl, hlt, rfl, by rw [List.length_append, List.length_singleton]; omega, ?_, by simpa using hl₅, hn₃.sameBut hs₅ (Ne.symm hDC), hJ₃, F₃.change hs₅ hDL hD0, fun p hp => ⟨hs₅.extBut _ _ (offn p hp).2.1 (N₃ p hp).1, (N₃ p hp).2⟩, offn, fun b o hx hbC hbI hbD e => hs₅.extBut b o hbD (k₃ b o hx (up₂ b o hbC hbI (hk b o hx hbC hbI hbD e)))⟩
    exact W.frame _ _ h₅ hst₃ fun b hb o e => hs₅.extBut b o (fun h => hDf (h ▸ hb)) e
  · have hin : i = n := by omega
    subst hin
    refine W.done _ _ _ hst' fun h₁ tk₁ hk₁ => ?_
    have kI : ∀ b o, b ≠ I → H.get? b = some o → h₁.get? b = some o := fun b o hb e => hk₁ b o (fun hm => hb (List.mem_singleton.mp hm)) e
    have ne0 : ∀ {b o a}, h₀.get? a = none → h₀.get? b = some o → b ≠ a := fun ha hb e => by rw [e, ha] at hb; cases hb
    exact hR h₁ tk₁ mC us nw (hn'.at' fun o e => kI _ o hCI e) (hacc'.at fun o e => kI _ o hDI e) hJ' ⟨F'.ns.at' fun o e => kI _ o (Ne.symm hIL) e, fun b o e => kI b o (ne0 hI0 e) (F'.keep b o e), F'.above⟩
      (fun p hp => ⟨kI _ _ (off' p hp).2.2 (N' p hp).1, (N' p hp).2⟩) off' fun b o hx hbC hbI hbD e => kI b o hbI (hk b o hx hbC hbI hbD e)
end
/-- a source whose iterator stays -/
inductive SrcP (prog : Program) (w : World) (A : Around) (xv : Value) (s₁ : Shared) (n : Nat) (P : Nat → Value → Prop) (ok : Addr → Prop) : Prop
  | mk (fp : List Addr) (St : Nat → Heap → Prop) (o : Obj) (q1 : (∀ (Q : Value → Shared → Prop) (E : Value → Shared → Prop), Q (.ref s₁.heap.objs.size) { s₁ with heap := s₁.heap.push o } → wpAny (model prog w) A (pyIter xv) Q E s₁)) (q2 : Walks prog w A s₁.heap.objs.size fp [s₁.heap.objs.size] n P St) (q3 : St 0 (s₁.heap.push o)) (q4 : (∀ b ∈ fp, b < s₁.heap.objs.size + 1 ∧ (b = s₁.heap.objs.size ∨ ok b))) (q5 : ∀ i h, St i h → h.get? s₁.heap.objs.size ≠ none) : SrcP prog w A xv s₁ n P ok
section
variable {prog : Program} {w : World} {A : Around} {E : Value → Shared → Prop} {s : Shared} {ok : Addr → Prop}
theorem srcp_list {l : Addr} {vs : List Value} (hh : A.handled = none) (hl : s.heap.IsList l vs.toArray) (hok : ok l) : SrcP prog w A (.ref l) s vs.length (fun i v => vs[i]? = some v) ok := by
  have hlt : l < s.heap.objs.size := by obtain ⟨o, ho, _⟩ := hl; exact Heap.lt_size ho
  have W := Walks.list (prog := prog) (w := w) (A := A) hh s.heap.objs.size l (Nat.ne_of_lt hlt) vs.toArray
  have e1 : vs.toArray.size = vs.length := by simp
  have e2 : (fun (i : Nat) (v : Value) => vs.toArray[i]? = some v) = fun i v => vs[i]? = some v := by funext i v; simp
  rw [e1, e2] at W
  refine ⟨_, _, { cls := .type "list_iterator", data := .fields #[.ref l, .int 0 0] }, fun Q E h => wpAny_pyIter_list hl h, W, ⟨⟨_, Heap.get?_push_size _ rfl, rfl, rfl⟩, hl.at fun o e => Heap.get?_push_of_some _ e⟩, fun b hb => ?_, fun i h hst e => ?_⟩
  · rcases List.mem_cons.mp hb with rfl | hb
    · exact ⟨Nat.lt_succ_self _, .inl rfl⟩
    · rw [List.mem_singleton.mp hb]; exact ⟨Nat.lt_succ_of_lt hlt, .inr hok⟩
  · obtain ⟨⟨oI, hoI, _⟩, _⟩ := hst
    rw [e] at hoI; cases hoI
theorem srcp_range {r : Addr} {a b c : Int} {t u v : Tok} {n : Nat} (hh : A.handled = none) (hr : IsRange s.heap r a b c t u v) (hsmall : Builtin.Range.small a b c = true) (hn : Builtin.Range.rangeSize a b c = n) :
    SrcP prog w A (.ref r) s n (fun i v => i < n ∧ ∃ t, v = .int (a + i * c) t) ok := by
  have W := walks_strong (Walks.range (prog := prog) (w := w) (A := A) hh s.heap.objs.size a c n)
  refine ⟨_, _, { cls := .type "range_iterator", data := .fields #[rawInt a, rawInt (Builtin.Range.rangeSize a b c), rawInt c] }, fun Q E h => wpAny_pyIter_range hr hsmall h, W, ?_, fun b hb => ⟨by rw [List.mem_singleton.mp hb]; exact Nat.lt_succ_self _, .inl (List.mem_singleton.mp hb)⟩, fun i h hst e => ?_⟩
  · show IsRangeIter _ _ _ _ _; rw [hn]; simpa using Heap.get?_push_size _ rfl
  · have : IsRangeIter _ _ _ _ _ := hst
    unfold IsRangeIter at this
    rw [e] at this; cases this
end
/-- the turns of a comprehension with a ledger -/
def LedTurns (prog : Program) (w : World) (A : Around) (env : Env) (scope : Scope) (cl : List (Str × Addr)) (x : Str) (elt : Expr) (h₀ : Heap) (L : Addr) (m : Str → Option Value) (s₁ : Shared) (n : Nat) (P : Nat → Value → Prop) (ex : Addr → Prop) (J : Nat → List Value → List (Addr × Obj) → Prop) : Prop :=
  ∀ (i : Nat) (v : Value) (us : List Value) (nw : List (Addr × Obj)) (C : Addr) (oC : Obj) (mC : Str → Option Value) (s₂ : Shared) (E' : Value → Shared → Prop), i < n → P i v → J i us nw → LCg.NsObj oC mC → mC x = some v → Fr h₀ L s₂.heap m → News h₀ L s₂.heap ((C, oC) :: nw) → (∀ p ∈ nw, p.1 ≠ C) → s₁.heap.get? C = none →
    wpAny (model prog w) A (eval elt (compEnvC scope cl C env)) (LedStep ex h₀ L m (J (i + 1)) us nw s₂) E' s₂
def LedEndAt (h₀ : Heap) (L : Addr) (m : Str → Option Value) (s₁ : Shared) (n : Nat) (ex : Addr → Prop) (J : Nat → List Value → List (Addr × Obj) → Prop) (Q : Value → Shared → Prop) : Prop :=
  ∀ (D : Addr) (h' : Heap) (tk k : Nat) (us : List Value) (nw : List (Addr × Obj)), J n us nw → Fr h₀ L h' m → News h₀ L h' ((D, { cls := .type "list", dict := none, data := .seq us.toArray k, slots := #[] }) :: nw) → (∀ p ∈ nw, p.1 ≠ D) → s₁.heap.get? D = none →
    (∀ b o, ¬ ex b → s₁.heap.get? b = some o → h'.get? b = some o) → Q (.ref D) { s₁ with heap := h', toks := tk }
def LedUse (h₀ : Heap) (L : Addr) (m : Str → Option Value) (s₁ : Shared) (n : Nat) (ex : Addr → Prop) (J : Nat → List Value → List (Addr × Obj) → Prop) (z : Str) (Q : Flow → Shared → Prop) : Prop :=
  ∀ (D : Addr) (h' : Heap) (tk k : Nat) (us : List Value) (nw : List (Addr × Obj)), J n us nw → Fr h₀ L h' (fun y => if y = z then some (.ref D) else m y) → News h₀ L h' ((D, { cls := .type "list", dict := none, data := .seq us.toArray k, slots := #[] }) :: nw) → (∀ p ∈ nw, p.1 ≠ D) → s₁.heap.get? D = none →
    (∀ b o, ¬ ex b → b ≠ L → s₁.heap.get? b = some o → h'.get? b = some o) → Q .next { s₁ with heap := h', toks := tk }
section
variable {prog : Program} {w : World} {A : Around} {E : Value → Shared → Prop} {env : Env} {s₁ : Shared}
theorem led_core {elt iter : Expr} {x : Str} {px : Pos} {scope : Scope} {cl : List (Str × Addr)} {pos : Pos} {use : Option (Value → Sem Unit)} {Q : Value → Shared → Prop} {xv : Value}
    {n : Nat} {P : Nat → Value → Prop} {h₀ : Heap} {L : Addr} {m : Str → Option Value} {news : List (Addr × Obj)} {ex : Addr → Prop} {J : Nat → List Value → List (Addr × Obj) → Prop}
    (hcell : ∀ z ∈ scope.names, z.2 ≠ .cell) (hkind : scope.kind = .function) (hx : scope.names.lookup x = some .local)
    (src : SrcP prog w A xv s₁ n P (fun b => ¬ ex b)) (hsz : n ≤ 1000) (F : Fr h₀ L s₁.heap m) (N : News h₀ L s₁.heap news) (hex : ∀ b, ex b → s₁.heap.get? b ≠ none) (hJ : J 0 [] news)
    (turn : LedTurns prog w A env scope cl x elt h₀ L m s₁ n P ex J)
    (fin : ∀ (D C : Addr) (h' : Heap) (tk : Nat) (mC : Str → Option Value) (us : List Value) (nw : List (Addr × Obj)), J n us nw → Fr h₀ L h' m → News h₀ L h' nw → h'.PlainList D us.toArray → h'.Ns C mC → (∀ p ∈ nw, p.1 ≠ C ∧ p.1 ≠ D) → D ≠ C → C ≠ L → D ≠ L → h₀.get? C = none → h₀.get? D = none → s₁.heap.get? C = none → s₁.heap.get? D = none →
      (∀ b o, ¬ ex b → s₁.heap.get? b = some o → h'.get? b = some o) → compPost (model prog w) A E use Q (.ref D) C (.ok .next) { s₁ with heap := h', toks := tk }) :
    wpAny (model prog w) A (pyIter xv) (fun it s₂ => wpAny (model prog w) A (newList []) (fun acc s₃ => wpAny (model prog w) A (newFunctionEnv scope env.globals cl [] env.qual none .none (some env)) (fun cenv s₄ =>
        codeAny (model prog w) A (.compStart (.ListComp elt [⟨.Name x px, iter, [], 0⟩] scope pos) 0 it acc { cenv with scope := relabel scope env }) (compPost (model prog w) A E use Q acc cenv.locals) s₄) E s₃) E s₂) E s₁ := by
  obtain ⟨fp, St, oI, hiter, W, hst, hfp, hIp⟩ := src
  refine hiter _ _ ?_
  generalize hH : s₁.heap.push oI = H1 at hst ⊢
  have old1 : ∀ b o, s₁.heap.get? b = some o → H1.get? b = some o := fun b o e => hH ▸ Heap.get?_push_of_some _ e
  have hsz1 : H1.objs.size = s₁.heap.objs.size + 1 := by rw [← hH, Heap.size_push]
  refine wpAny_newObj_type (wpAny_newFunctionEnv hcell (by intro z hz; simp at hz) (fun h₁ hns₁ hsb₁ => ?_) hkind)
  dsimp only at hns₁ hsb₁ ⊢
  generalize hH2 : H1.push { cls := .type "list", dict := none, data := .seq ([] : List Value).toArray } = H2 at hns₁ hsb₁ ⊢
  have hC : H2.objs.size = H1.objs.size + 1 := by rw [← hH2, Heap.size_push]
  have hDC : H1.objs.size ≠ H2.objs.size := by rw [hC]; exact Nat.ne_of_lt (Nat.lt_succ_self _)
  have below : ∀ b, b < H1.objs.size → b ≠ H2.objs.size ∧ b ≠ H1.objs.size := fun b hb => ⟨by rw [hC]; exact Nat.ne_of_lt (Nat.lt_succ_of_lt hb), Nat.ne_of_lt hb⟩
  have hfp' : ∀ b ∈ fp, b < H1.objs.size := fun b hb => by rw [hsz1]; exact (hfp b hb).1
  have hDf : H1.objs.size ∉ fp := fun hm => Nat.lt_irrefl _ (hfp' _ hm)
  have hCf : H2.objs.size ∉ fp := fun hm => by have := hfp' _ hm; rw [hC] at this; exact Nat.lt_irrefl _ (Nat.lt_of_succ_lt this)
  have old : ∀ b o, H1.get? b = some o → h₁.get? b = some o := fun b o e => hsb₁.extBut b o (below b (Heap.lt_size e)).1 (Heap.get?_push_of_some _ (hH2 ▸ Heap.get?_push_of_some _ e))
  have hacc : h₁.PlainList H1.objs.size #[] := ⟨_, hsb₁.extBut _ _ hDC (Heap.get?_push_of_some _ (hH2 ▸ Heap.get?_push_size _ rfl))⟩
  have hst₁ : St 0 h₁ := W.frame _ _ _ hst fun b _ o e => old b o e
  have fresh1 : ∀ a, s₁.heap.objs.size ≤ a → s₁.heap.get? a = none := fun a ha => Heap.get?_none_of_le ha
  have fresh0 : ∀ a, s₁.heap.objs.size ≤ a → h₀.get? a = none := fun a ha => by
    cases e : h₀.get? a with
    | none => rfl
    | some o' => have := F.keep a o' e; rw [fresh1 a ha] at this; cases this
  have neL : ∀ a, s₁.heap.objs.size ≤ a → a ≠ L := fun a ha e => by
    have := F.ns.lt
    rw [← e] at this
    exact absurd (Nat.lt_of_lt_of_le this ha) (Nat.lt_irrefl _)
  have ltN : ∀ q ∈ news, q.1 < s₁.heap.objs.size := fun q hq => Heap.lt_size (N q hq).1
  have hIs : s₁.heap.objs.size ≤ s₁.heap.objs.size := Nat.le_refl _
  have hDs : s₁.heap.objs.size ≤ H1.objs.size := by rw [hsz1]; exact Nat.le_succ _
  have hCs : s₁.heap.objs.size ≤ H2.objs.size := by rw [hC, hsz1]; exact Nat.le_succ_of_le (Nat.le_succ _)
  have k1 : ∀ b o, s₁.heap.get? b = some o → h₁.get? b = some o := fun b o e => old b o (old1 b o e)
  have exn : ∀ a, s₁.heap.objs.size ≤ a → ¬ ex a := fun a ha h => hex a h (fresh1 a ha)
  have ltne : ∀ {q a : Nat}, q < s₁.heap.objs.size → s₁.heap.objs.size ≤ a → q ≠ a := fun h1 h2 => Nat.ne_of_lt (Nat.lt_of_lt_of_le h1 h2)
  have go : ∀ (tk0 : Nat), codeAny (model prog w) A (.compLoop (.ListComp elt [⟨.Name x px, iter, [], 0⟩] scope pos) 0 (.ref s₁.heap.objs.size) (.ref H1.objs.size) (compEnvC scope cl H2.objs.size env))
      (compPost (model prog w) A E use Q (.ref H1.objs.size) H2.objs.size) { s₁ with heap := h₁, toks := tk0 } := by
    intro tk0
    refine led_loop (s := { s₁ with heap := h₁, toks := tk0 }) (us₀ := []) (C := H2.objs.size) W hIp J rule_one rfl (lookup_relabel_local hx) (by simp [compEnvC, relabel, hkind]) hDC hDf hCf (fun b hb => (hfp b hb).2.elim (fun e => e ▸ exn _ hIs) id) (exn _ hCs) (exn _ hDs) hst₁ (by simpa using hacc) hns₁ (by
      rw [sizeLine_eq]; simp only [List.length_nil]; omega) (F.keeps k1) (fun q hq => ⟨k1 _ _ (N q hq).1, (N q hq).2⟩) (fresh0 _ hCs) (neL _ hCs) (fresh0 _ hDs) (neL _ hDs) (fresh0 _ hIs) (neL _ hIs)
      (fun q hq => ⟨ltne (ltN q hq) hCs, ltne (ltN q hq) hDs, ltne (ltN q hq) hIs⟩) hJ ?_ ?_
    · intro i v us nw oC mC s₂ E' hi hP hJi hns hm F₂ N₂ ho
      exact turn i v us nw _ oC mC s₂ E' hi hP hJi hns hm F₂ N₂ ho (fresh1 _ hCs)
    · intro h' tk mC us nw hn hpl hJn F' N' ho hk
      refine fin _ _ h' tk mC us nw hJn F' N' hpl hn (fun p hp => ⟨(ho p hp).1, (ho p hp).2.1⟩) hDC (neL _ hCs) (neL _ hDs) (fresh0 _ hCs) (fresh0 _ hDs) (fresh1 _ hCs) (fresh1 _ hDs) fun b o hb e => ?_
      have hlt := Heap.lt_size e
      exact hk b o hb (ltne hlt hCs) (ltne hlt hIs) (ltne hlt hDs) (k1 b o e)
  exact codeAny_compStart_list (go _) (W.self 0 _ _ _ hst₁ (go _))
/-- what is to be shown of a comprehension with a ledger, where its source is at hand -/
inductive LedAt (prog : Program) (w : World) (A : Around) (env : Env) (scope : Scope) (cl : List (Str × Addr)) (x : Str) (elt : Expr) (Q : Value → Shared → Prop) (xv : Value) (s₁ : Shared) : Prop
  | mk (n : Nat) (P : Nat → Value → Prop) (h₀ : Heap) (L : Addr) (m : Str → Option Value) (news : List (Addr × Obj)) (ex : Addr → Prop) (J : Nat → List Value → List (Addr × Obj) → Prop) (q1 : SrcP prog w A xv s₁ n P (fun b => ¬ ex b)) (q2 : n ≤ 1000) (q3 : Fr h₀ L s₁.heap m) (q4 : News h₀ L s₁.heap news) (q5 : (∀ b, ex b → s₁.heap.get? b ≠ none)) (q6 : J 0 [] news) (q7 : LedTurns prog w A env scope cl x elt h₀ L m s₁ n P ex J) (q8 : LedEndAt h₀ L m s₁ n ex J Q) : LedAt prog w A env scope cl x elt Q xv s₁
inductive LedUseAt (prog : Program) (w : World) (A : Around) (env : Env) (scope : Scope) (cl : List (Str × Addr)) (x : Str) (elt : Expr) (z : Str) (Q : Flow → Shared → Prop) (xv : Value) (s₁ : Shared) : Prop
  | mk (n : Nat) (P : Nat → Value → Prop) (h₀ : Heap) (L : Addr) (m : Str → Option Value) (news : List (Addr × Obj)) (ex : Addr → Prop) (J : Nat → List Value → List (Addr × Obj) → Prop) (q1 : SrcP prog w A xv s₁ n P (fun b => ¬ ex b)) (q2 : n ≤ 1000) (q3 : env.locals = L) (q4 : Fr h₀ L s₁.heap m) (q5 : News h₀ L s₁.heap news) (q6 : (∀ b, ex b → s₁.heap.get? b ≠ none)) (q7 : J 0 [] news) (q8 : LedTurns prog w A env scope cl x elt h₀ L m s₁ n P ex J) (q9 : LedUse h₀ L m s₁ n ex J z Q) : LedUseAt prog w A env scope cl x elt z Q xv s₁
end
section
variable {prog : Program} {w : World} {A : Around} {E : Value → Shared → Prop} {env : Env} {s : Shared}
theorem led_at {elt iter : Expr} {x : Str} {px : Pos} {scope : Scope} {cl : List (Str × Addr)} {pos : Pos} {Q : Value → Shared → Prop}
    (hclos : closureFor scope env = pure cl) (hcell : ∀ y ∈ scope.names, y.2 ≠ .cell) (hkind : scope.kind = .function)
    (hnames : ∀ y ∈ scope.names, y.2 = .local → scope.names.lookup y.1 = some .local) (hx : scope.names.lookup x = some .local)
    (h : wpAny (model prog w) A (eval iter env) (LedAt prog w A env scope cl x elt Q) E s)
    (hs : ∀ x, foldedSetIterable iter env x = pure x := by intro _; rfl) :
    wpAny (model prog w) A (eval (.ListComp elt [⟨.Name x px, iter, [], 0⟩] scope pos) env) Q E s := by
  rw [eval_ListComp]
  refine wpAny_comprehension_free (use := none) rfl hs hclos hkind hnames (wpAny_mono h (fun xv s₁ h₁ => ?_) fun _ _ e => e)
  obtain ⟨n, P, h₀, L, m, news, ex, J, src, hsz, F, N, hex, hJ, turn, hd⟩ := h₁
  refine led_core hcell hkind hx src hsz F N hex hJ turn fun D C h' tk mC us nw hJn F' N' hpl hn ho hDC hCL hDL hC0 hD0 hC1 hD1 hk => ?_
  refine ⟨mC, hn, fun h'' hs'' => ?_⟩
  have ne0 : ∀ {b o}, h₀.get? b = some o → b ≠ C := fun hb e => by rw [e, hC0] at hb; cases hb
  have k2 : ∀ b o, b ≠ C → h'.get? b = some o → h''.get? b = some o := fun b o hb e => hs''.extBut b o hb e
  obtain ⟨k, hpl⟩ := hpl
  refine hd D h'' tk k us nw hJn ⟨F'.ns.at' fun o e => k2 _ o (Ne.symm hCL) e, fun b o e => k2 b o (ne0 e) (F'.keep b o e), F'.above⟩ (fun p hp => ?_) (fun p hp => (ho p hp).2) hD1 fun b o hb e => k2 b o (fun q => ?_) (hk b o hb e)
  · rcases List.mem_cons.mp hp with rfl | hp
    · exact ⟨k2 _ _ hDC hpl, hDL, hD0⟩
    · exact ⟨k2 _ _ (ho p hp).1 (N' p hp).1, (N' p hp).2⟩
  · rw [q, hC1] at e; cases e
theorem led_use {elt iter : Expr} {x z : Str} {px pz : Pos} {scope : Scope} {cl : List (Str × Addr)} {pos spos : Pos} {Q : Flow → Shared → Prop}
    (hsw : swapsWith (.ListComp elt [⟨.Name x px, iter, [], 0⟩] scope pos) (some (.Name z pz)) spos.line env = pure true)
    (hclos : closureFor scope env = pure cl) (hcell : ∀ y ∈ scope.names, y.2 ≠ .cell) (hkind : scope.kind = .function)
    (hnames : ∀ y ∈ scope.names, y.2 = .local → scope.names.lookup y.1 = some .local) (hx : scope.names.lookup x = some .local)
    (hz : env.kindOf z = some .local) (hp : (env.scope.kind == .class || (env.scope.kind == .module && env.locals != env.globals)) = false)
    (h : wpAny (model prog w) A (eval iter env) (LedUseAt prog w A env scope cl x elt z Q) E s)
    (hs : ∀ x, foldedSetIterable iter env x = pure x := by intro _; rfl) :
    wpAny (model prog w) A (exec (.Assign [.Name z pz] (.ListComp elt [⟨.Name x px, iter, [], 0⟩] scope pos) spos) env) Q E s := by
  rw [exec_Assign_Name_used _ _ _ _ hsw]
  refine wpAny_bind (wpAny_standAt (wpAny_bind ?_))
  show wpAny _ A (do let _ ← comprehension (.ListComp elt [⟨.Name x px, iter, [], 0⟩] scope pos) scope env _ (newList []) false (eval iter env) (some (assign (.Name z pz) env))) _ _ s
  refine wpAny_bind (wpAny_mono (wpAny_comprehension_free (use := some (assign (.Name z pz) env)) (Q := fun _ s' => Q .next s') rfl hs hclos hkind hnames
    (wpAny_mono h (fun xv s₁ h₁ => ?_) fun _ _ e => e)) (fun _ s' hq => wpAny_pure (wpAny_pure hq)) fun _ _ e => e)
  obtain ⟨n, P, h₀, L, m, news, ex, J, src, hsz, hL, F, N, hex, hJ, turn, hd⟩ := h₁
  refine led_core hcell hkind hx src hsz F N hex hJ turn fun D C h' tk mC us nw hJn F' N' hpl hn ho hDC hCL hDL hC0 hD0 hC1 hD1 hk => ?_
  refine post_use hz hp hL F' N' hn hCL hDL hDC hpl hC0 (fun q hq => (ho q hq).1) fun h'' tk'' F2 N2 hpl2 k2 => ?_
  obtain ⟨k, hpl2⟩ := hpl2
  refine hd D h'' tk'' k us nw hJn F2 (fun p hp => ?_) (fun p hp => (ho p hp).2) hD1 fun b o hx hb e => k2 b o hb (fun q => ?_) (hk b o hx e)
  · rcases List.mem_cons.mp hp with rfl | hp
    · exact ⟨hpl2, hDL, hD0⟩
    · exact N2 p hp
  · rw [q, hC1] at e; cases e
end
end Mine
end
section
open PySem PySem.W PyProof.Rows PySem.Calls
set_option maxRecDepth 100000
set_option maxHeartbeats 0
namespace Mine
abbrev NoEx : Addr → Prop := fun _ => False
/-- what is to be shown where the inner source is at hand -/
inductive Inner2 (prog : Program) (w : World) (A : Around) (cenv : Env) (y : Str) (elt : Expr) (h₀ : Heap) (L : Addr) (m : Str → Option Value) (Jn : List Value → List (Addr × Obj) → Prop) (us : List Value) (nw : List (Addr × Obj)) (C : Addr) (oK : Obj) (s₃ : Shared) (xv2 : Value) (s₄ : Shared) : Prop
  | mk (H' : Heap) (tk' : Nat) (nw' : List (Addr × Obj)) (n2 : Nat) (P2 : Nat → Value → Prop) (J2 : Nat → List Value → List (Addr × Obj) → Prop) (q1 : s₄ = { s₃ with heap := H', toks := tk' }) (q2 : Fr h₀ L H' m) (q3 : News h₀ L H' nw') (q4 : s₃.heap.StaysIn H') (q5 : (∀ p ∈ nw', p ∈ nw ∨ s₃.heap.get? p.1 = none)) (q6 : SrcP prog w A xv2 { s₃ with heap := H', toks := tk' } n2 P2 (fun b => s₃.heap.get? b = none ∨ h₀.get? b ≠ none)) (q7 : us.length + n2 ≤ 100000) (q8 : J2 0 us nw') (q9 : (∀ (i : Nat) (v : Value) (us : List Value) (nw : List (Addr × Obj)) (oC : Obj) (mC : Str → Option Value) (s₂ : Shared) (E' : Value → Shared → Prop), i < n2 → P2 i v → J2 i us nw → LCg.NsObj oC mC → mC y = some v → Fr h₀ L s₂.heap m → News h₀ L s₂.heap ((C, oC) :: (C + 1, oK) :: nw) → (∀ p ∈ nw, p.1 ≠ C ∧ p.1 ≠ C + 1) →
      wpAny (model prog w) A (eval elt cenv) (LedStep NoEx h₀ L m (J2 (i + 1)) us nw s₂) E' s₂)) (q10 : ∀ us nw, J2 n2 us nw → Jn us nw) : Inner2 prog w A cenv y elt h₀ L m Jn us nw C oK s₃ xv2 s₄
section
variable {prog : Program} {w : World} {A : Around} {s : Shared} {elt i1 i2 : Expr} {x y : Str} {px py : Pos} {scope : Scope} {pos : Pos} {cenv : Env} {R : Result → Shared → Prop}
theorem cell_outer {I D C L : Addr} {fp : List Addr} {n : Nat} {P : Nat → Value → Prop} {St : Nat → Heap → Prop} {mc m : Str → Option Value} {h₀ : Heap} {news : List (Addr × Obj)}
    (W : Walks prog w A I fp [I] n P St) (hIp : ∀ i h, St i h → h.get? I ≠ none) (J : Nat → List Value → List (Addr × Obj) → Prop)
    (hkf : cenv.scope.kind = .function) (hx : cenv.kindOf x = some .cell) (hcl : cenv.cells.lookup x = some (C + 1))
    (hloc : cenv.locals = C) (hy : cenv.kindOf y = some .local) (hp : (cenv.scope.kind == .class || (cenv.scope.kind == .module && cenv.locals != cenv.globals)) = false)
    (hs2 : ∀ z, foldedSetIterable i2 cenv z = pure z)
    (hDC : D ≠ C) (hDK : D ≠ C + 1) (hDf : D ∉ fp) (hCf : C ∉ fp) (hKf : C + 1 ∉ fp) (hfpC : ∀ b ∈ fp, b < C)
    (hst : St 0 s.heap) (hacc : s.heap.PlainList D #[]) (hn : s.heap.Ns C mc) (hcell : s.heap.get? (C + 1) = some (cellObj none))
    (F : Fr h₀ L s.heap m) (N : News h₀ L s.heap news) (hC0 : h₀.get? C = none) (hCL : C ≠ L) (hK0 : h₀.get? (C + 1) = none) (hKL : C + 1 ≠ L) (hD0 : h₀.get? D = none) (hDL : D ≠ L) (hI0 : h₀.get? I = none) (hIL : I ≠ L)
    (off : ∀ p ∈ news, p.1 ≠ C ∧ p.1 ≠ D ∧ p.1 ≠ I ∧ p.1 ≠ C + 1) (hJ : J 0 [] news)
    (turn : ∀ (i : Nat) (v : Value) (us : List Value) (nw : List (Addr × Obj)) (oC oK : Obj) (mC : Str → Option Value) (s₂ : Shared) (E' : Value → Shared → Prop), i < n → P i v → J i us nw → LCg.NsObj oC mC → oK.data = .cell (some v) → Fr h₀ L s₂.heap m → News h₀ L s₂.heap ((C, oC) :: (C + 1, oK) :: nw) → (∀ p ∈ nw, p.1 ≠ C ∧ p.1 ≠ C + 1) →
      wpAny (model prog w) A (eval i2 cenv) (Inner2 prog w A cenv y elt h₀ L m (J (i + 1)) us nw C oK s₂) E' s₂)
    (hR : ∀ h' tk mC us nw, h'.Ns C mC → h'.PlainList D us.toArray → J n us nw → Fr h₀ L h' m → News h₀ L h' nw → (∀ p ∈ nw, p.1 ≠ C ∧ p.1 ≠ D ∧ p.1 ≠ I ∧ p.1 ≠ C + 1) →
      (∀ b o, b ≠ C → b ≠ I → b ≠ D → b ≠ C + 1 → s.heap.get? b = some o → h'.get? b = some o) → R (.ok .next) { s with heap := h', toks := tk }) :
    codeAny (model prog w) A (.compLoop (E2 elt x px i1 y py i2 [] scope pos) 0 (.ref I) (.ref D) cenv) R s := by
  have hIf : I ∈ fp := W.sub I (List.mem_singleton.mpr rfl)
  have hCI : C ≠ I := fun e => hCf (e ▸ hIf)
  have hDI : D ≠ I := fun e => hDf (e ▸ hIf)
  have hKI : C + 1 ≠ I := fun e => hKf (e ▸ hIf)
  have hCK : C ≠ C + 1 := Nat.ne_of_lt (Nat.lt_succ_self _)
  have ne0 : ∀ {b o a}, h₀.get? a = none → h₀.get? b = some o → b ≠ a := fun ha hb e => by rw [e, ha] at hb; cases hb
  refine codeAny_loop rfl (fun k s' => ∃ (h' : Heap) (tk i : Nat) (mC : Str → Option Value) (us : List Value) (nw : List (Addr × Obj)) (vc : Option Value), s' = { s with heap := h', toks := tk } ∧ i ≤ n ∧ k = n - i ∧ St i h' ∧ h'.PlainList D us.toArray ∧ h'.Ns C mC ∧ h'.IsCell (C + 1) vc ∧
      J i us nw ∧ Fr h₀ L h' m ∧ News h₀ L h' nw ∧ (∀ p ∈ nw, p.1 ≠ C ∧ p.1 ≠ D ∧ p.1 ≠ I ∧ p.1 ≠ C + 1) ∧ (∀ b o, b ≠ C → b ≠ I → b ≠ D → b ≠ C + 1 → s.heap.get? b = some o → h'.get? b = some o)) ?_ n
    ⟨s.heap, s.toks, 0, mc, [], news, none, rfl, Nat.zero_le _, rfl, hst, by simpa using hacc, hn, ⟨_, hcell, rfl⟩, hJ, F, N, off, fun _ _ _ _ _ _ e => e⟩
  rintro k s' ⟨H, tk, i, mC, us, nw, vc, rfl, hi, rfl, hst', hacc', hn', hc', hJ', F', N', off', hk⟩
  show wpAny _ A ((compTurn (E2 elt x px i1 y py i2 [] scope pos) 0 (.ref I) (.ref D) cenv).onRaise (fun x => do noteFrame x cenv; theTreesLotGoes x)) _ _ _
  refine wpAny_noted ?_
  rw [turn_outer]
  refine wpAny_bind (wpAny_standAt (wpAny_bind ?_))
  by_cases hlt : i < n
  · refine W.item i _ _ _ hlt hst' fun v h₁ tk₁ hPv hst₁ hk₁ => ?_
    refine wpAny_bind (wpAny_of_eq (a := ()) (by rfl) (wpAny_bind ?_))
    have kI : ∀ b o, b ≠ I → H.get? b = some o → h₁.get? b = some o := fun b o hb e => hk₁ b o (fun hm => hb (List.mem_singleton.mp hm)) e
    have hc₁ : h₁.IsCell (C + 1) vc := by obtain ⟨o, ho, hd⟩ := hc'; exact ⟨o, kI _ o hKI ho, hd⟩
    refine wpAny_assign_Name (wpAny_storeName_cell hkf hx hcl hc₁ fun h₂ hv₂ hs₂ => ?_)
    obtain ⟨oK, hoK, hdK⟩ := hv₂
    have up₂ : ∀ b o, b ≠ C + 1 → b ≠ I → H.get? b = some o → h₂.get? b = some o := fun b o hbK hbI e => hs₂.extBut b o hbK (kI b o hbI e)
    have hst₂ : St (i + 1) h₂ := W.frame _ _ _ hst₁ fun b hb o e => hs₂.extBut b o (fun h => hKf (h ▸ hb)) e
    have hn₂ : h₂.Ns C mC := hn'.at' fun o e => up₂ C o hCK hCI e
    obtain ⟨oC, hoC, hns⟩ := LCg.ns_obj hn₂
    have F₂ : Fr h₀ L h₂ m := ⟨F'.ns.at' fun o e => up₂ _ o (Ne.symm hKL) (Ne.symm hIL) e, fun b o e => up₂ b o (ne0 hK0 e) (ne0 hI0 e) (F'.keep b o e), F'.above⟩
    have N₂ : News h₀ L h₂ nw := fun p hp => ⟨up₂ _ _ (off' p hp).2.2.2 (off' p hp).2.2.1 (N' p hp).1, (N' p hp).2⟩
    have NC : ∀ {h : Heap} {o1 o2 : Obj} {l : List (Addr × Obj)}, h.get? C = some o1 → h.get? (C + 1) = some o2 → News h₀ L h l → News h₀ L h ((C, o1) :: (C + 1, o2) :: l) := fun e1 e2 Nl p hp => by
      rcases List.mem_cons.mp hp with rfl | hp
      · exact ⟨e1, hCL, hC0⟩
      · rcases List.mem_cons.mp hp with rfl | hp
        · exact ⟨e2, hKL, hK0⟩
        · exact Nl p hp
    refine wpAny_bind (wpAny_mono (turn i v us nw oC oK _ { s with heap := h₂, toks := tk₁ } _ hlt hPv hJ' hns hdK F₂ (NC hoC hoK N₂) fun p hp => ⟨(off' p hp).1, (off' p hp).2.2.2⟩) (fun xv2 s₄ hin => ?_) fun _ _ e => e)
    obtain ⟨h₄, tk₄, nw₄, n2, P2, J2, rfl, F₄, N₄, hk₄, came₄, ⟨fp2, St2, o2, hiter, W2, hst2, hfp2, hIp2⟩, hsz2, hJ2, hturn2, hend2⟩ := hin
    dsimp only at hk₄ came₄ hst2 hfp2
    refine wpAny_bind (wpAny_standAt (wpAny_bind ?_))
    rw [hs2]
    refine wpAny_pure (wpAny_bind (wpAny_holding (hiter _ _ ?_)))
    have hacc₂ : h₂.PlainList D us.toArray := hacc'.at fun o e => up₂ _ o hDK hDI e
    obtain ⟨kD, hD₂⟩ := hacc₂
    have hD₄ := hk₄ _ _ hD₂
    have hC₄ := hk₄ _ _ hoC
    have hK₄ := hk₄ _ _ hoK
    have hI₂ : h₂.get? I ≠ none := hIp _ _ hst₂
    have hst₄ : St (i + 1) h₄ := W.frame _ _ _ hst₂ fun b hb o e => hk₄ _ _ e
    have hI₄ : h₄.get? I ≠ none := hIp _ _ hst₄
    obtain ⟨oI, hoI⟩ : ∃ oI, h₄.get? I = some oI := by
      cases e : h₄.get? I with
      | none => exact absurd e hI₄
      | some o => exact ⟨o, rfl⟩
    have lt₄ : ∀ {b}, h₄.get? b ≠ none → b < h₄.objs.size := fun {b} hb => by
      cases e : h₄.get? b with
      | none => exact absurd e hb
      | some o => exact Heap.lt_size e
    have off₄ : ∀ p ∈ nw₄, p.1 ≠ C ∧ p.1 ≠ D ∧ p.1 ≠ I ∧ p.1 ≠ C + 1 := fun p hp => by
      rcases came₄ p hp with q | q
      · exact off' p q
      · refine ⟨fun e => ?_, fun e => ?_, fun e => ?_, fun e => ?_⟩ <;> rw [e] at q
        · rw [hoC] at q; cases q
        · rw [hD₂] at q; cases q
        · exact hI₂ q
        · rw [hoK] at q; cases q
    have ltn : ∀ p ∈ nw₄, p.1 < h₄.objs.size := fun p hp => Heap.lt_size (N₄ p hp).1
    have no2 : ∀ {b o}, h₂.get? b = some o → h₀.get? b = none → b ∉ fp2 := fun {b o} e e0 hm => by
      rcases (hfp2 b hm).2 with h | h | h
      · exact absurd (Heap.lt_size (hk₄ _ _ e)) (h ▸ Nat.lt_irrefl _)
      · rw [e] at h; cases h
      · exact h e0
    have hD2 := no2 hD₂ hD0
    have hC2 := no2 hoC hC0
    have hI20 : h₀.get? h₄.objs.size = none := by
      cases e : h₀.get? h₄.objs.size with
      | none => rfl
      | some o => exact absurd (Heap.lt_size (F₄.keep _ _ e)) (Nat.lt_irrefl _)
    have hI2L : h₄.objs.size ≠ L := fun e => absurd F₄.ns.lt (by rw [← e]; exact Nat.lt_irrefl _)
    have k5 : ∀ b o, h₄.get? b = some o → (h₄.push o2).get? b = some o := fun b o e => Heap.get?_push_of_some _ e
    have key : ∀ R' : Result → Shared → Prop, (∀ (h6 : Heap) (tk6 : Nat) (m6 : Str → Option Value) (us6 : List Value) (nw6 : List (Addr × Obj)), h6.Ns C m6 → h6.PlainList D us6.toArray → J (i + 1) us6 nw6 → Fr h₀ L h6 m → News h₀ L h6 nw6 → (∀ p ∈ nw6, p.1 ≠ C ∧ p.1 ≠ D ∧ p.1 ≠ I ∧ p.1 ≠ C + 1) →
        (∀ b o, b ≠ C → b ≠ D → h₄.get? b = some o → h6.get? b = some o) → R' (.ok .next) { s with heap := h6, toks := tk6 }) →
        codeAny (model prog w) A (.compLoop (E2 elt x px i1 y py i2 [] scope pos) 1 (.ref h₄.objs.size) (.ref D) cenv) R' { s with heap := h₄.push o2, toks := tk₄ } := by
      intro R' hfin
      refine led_loop (s := { s with heap := h₄.push o2, toks := tk₄ }) (us₀ := us) (C := C) (ex := NoEx) (L := L) (m := m) (h₀ := h₀) (news := (C + 1, oK) :: (I, oI) :: nw₄) (mc := mC) W2 hIp2 (fun j us nwK => ∃ nw, nwK = (C + 1, oK) :: (I, oI) :: nw ∧ J2 j us nw ∧ ∀ p ∈ nw, p.1 ≠ I ∧ p.1 ≠ C + 1) rule_inner hloc hy hp hDC hD2 hC2 (fun _ _ h => h) (fun h => h) (fun h => h) hst2 ⟨kD, k5 _ _ hD₄⟩ (hn₂.keeps fun b o e => k5 b o (hk₄ b o e)) (by rw [sizeLine_eq]; omega)
        (F₄.push _) (fun p hp => ?_) hC0 hCL hD0 hDL hI20 hI2L (fun p hp => ?_) ⟨nw₄, rfl, hJ2, fun p hp => ⟨(off₄ p hp).2.2.1, (off₄ p hp).2.2.2⟩⟩ ?_ ?_
      · rcases List.mem_cons.mp hp with rfl | hp
        · exact ⟨k5 _ _ hK₄, hKL, hK0⟩
        · rcases List.mem_cons.mp hp with rfl | hp
          · exact ⟨k5 _ _ hoI, hIL, hI0⟩
          · exact ⟨k5 _ _ (N₄ p hp).1, (N₄ p hp).2⟩
      · rcases List.mem_cons.mp hp with rfl | hp
        · exact ⟨Ne.symm hCK, Ne.symm hDK, Nat.ne_of_lt (Heap.lt_size hK₄)⟩
        · rcases List.mem_cons.mp hp with rfl | hp
          · exact ⟨Ne.symm hCI, Ne.symm hDI, Nat.ne_of_lt (Heap.lt_size hoI)⟩
          exact ⟨(off₄ p hp).1, (off₄ p hp).2.1, Nat.ne_of_lt (ltn p hp)⟩
      · rintro j u us5 _ oC5 mC5 s₅ E5 hj hPu ⟨nw5, rfl, hJ5, ho5⟩ hns5 hm5 F5 N5 hoff5
        have hK5 := (N5 _ (.tail _ (.head _))).1
        have hI5 := (N5 _ (.tail _ (.tail _ (.head _)))).1
        refine wpAny_mono (hturn2 j u us5 nw5 oC5 mC5 s₅ E5 hj hPu hJ5 hns5 hm5 F5 (fun p hp => by
          rcases List.mem_cons.mp hp with rfl | hp
          · exact N5 _ (.head _)
          · rcases List.mem_cons.mp hp with rfl | hp
            · exact N5 _ (.tail _ (.head _))
            · exact N5 _ (.tail _ (.tail _ (.tail _ hp)))) fun p hp => ⟨hoff5 p (.tail _ (.tail _ hp)), (ho5 p hp).2⟩) (fun z s₆ h6 => ?_) fun _ _ e => e
        obtain ⟨h6, tk6, nw6, rfl, F6, N6, hJ6, k6, came6⟩ := h6
        refine ⟨h6, tk6, (C + 1, oK) :: (I, oI) :: nw6, rfl, F6, fun p hp => ?_, ⟨nw6, rfl, hJ6, fun p hp => ?_⟩, k6, fun p hp => ?_⟩
        · rcases List.mem_cons.mp hp with rfl | hp
          · exact ⟨k6 _ _ id hK5, hKL, hK0⟩
          · rcases List.mem_cons.mp hp with rfl | hp
            · exact ⟨k6 _ _ id hI5, hIL, hI0⟩
            · exact N6 p hp
        · rcases came6 p hp with q | q | q
          · exact ho5 p q
          · exact absurd q id
          · refine ⟨fun e => ?_, fun e => ?_⟩ <;> rw [e] at q
            · rw [hI5] at q; cases q
            · rw [hK5] at q; cases q
        · rcases List.mem_cons.mp hp with rfl | hp
          · exact .inl (.head _)
          · rcases List.mem_cons.mp hp with rfl | hp
            · exact .inl (.tail _ (.head _))
            rcases came6 p hp with q | q | q
            · exact .inl (.tail _ (.tail _ q))
            · exact absurd q id
            · exact .inr (.inr q)
      · rintro h6 tk6 m6 us6 _ hn6 hpl6 ⟨nw6, rfl, hJ6, ho6⟩ F6 N6 hoff6 hk6
        refine hfin h6 tk6 m6 us6 nw6 hn6 hpl6 (hend2 _ _ hJ6) F6 (fun p hp => N6 p (.tail _ (.tail _ hp))) (fun p hp => ⟨(hoff6 p (.tail _ (.tail _ hp))).1, (hoff6 p (.tail _ (.tail _ hp))).2.1, (ho6 p hp).1, (ho6 p hp).2⟩) fun b o h1 h2 e => hk6 b o id h1 (Nat.ne_of_lt (Heap.lt_size e)) h2 (k5 _ _ e)
    refine wpAny_bind (wpAny_runOwn ?_)
    show codeAny (model prog w) A _ _ _
    refine (fun fin => start_inner (key _ fin) (W2.self 0 _ _ _ hst2 (key _ fin))) ?_
    intro h6 tk6 m6 us6 nw6 hn6 hpl6 hJ6 F6 N6 off6 hk6
    have k36 : ∀ b o, b ≠ C → b ≠ D → h₂.get? b = some o → h6.get? b = some o := fun b o h1 h2 e => hk6 b o h1 h2 (hk₄ b o e)
    exact wpAny_pure ⟨rfl, n - (i + 1), by omega, h6, tk6, i + 1, m6, us6, nw6, some v, rfl, hlt, rfl, W.frame _ _ h6 hst₂ fun b hb o e => k36 b o (fun h => hCf (h ▸ hb)) (fun h => hDf (h ▸ hb)) e, hpl6, hn6, ⟨oK, k36 _ _ (Ne.symm hCK) (Ne.symm hDK) hoK, hdK⟩, hJ6, F6, N6, off6,
      fun b o h1 h2 h3 h4 e => k36 b o h1 h3 (up₂ b o h4 h2 (hk b o h1 h2 h3 h4 e))⟩
  · have hin : i = n := by omega
    subst hin
    refine W.done _ _ _ hst' fun h₁ tk₁ hk₁ => ?_
    have kI : ∀ b o, b ≠ I → H.get? b = some o → h₁.get? b = some o := fun b o hb e => hk₁ b o (fun hm => hb (List.mem_singleton.mp hm)) e
    exact wpAny_pure (hR h₁ tk₁ mC us nw (hn'.at' fun o e => kI _ o hCI e) (hacc'.at fun o e => kI _ o hDI e) hJ' ⟨F'.ns.at' fun o e => kI _ o (Ne.symm hIL) e, fun b o e => kI b o (ne0 hI0 e) (F'.keep b o e), F'.above⟩
      (fun p hp => ⟨kI _ _ (off' p hp).2.2.1 (N' p hp).1, (N' p hp).2⟩) off' fun b o hbC hbI hbD hbK e => kI b o hbI (hk b o hbC hbI hbD hbK e))
end
section
variable {prog : Program} {w : World} {A : Around} {E : Value → Shared → Prop} {env : Env} {s : Shared}
inductive Cell2At (prog : Program) (w : World) (A : Around) (env : Env) (scope : Scope) (cl : List (Str × Addr)) (x y : Str) (i2 elt : Expr) (Q : Value → Shared → Prop) (xv : Value) (s₁ : Shared) : Prop
  | mk (n : Nat) (P : Nat → Value → Prop) (h₀ : Heap) (L : Addr) (m : Str → Option Value) (news : List (Addr × Obj)) (J : Nat → List Value → List (Addr × Obj) → Prop) (q1 : SrcP prog w A xv s₁ n P (fun _ => True)) (q2 : Fr h₀ L s₁.heap m) (q3 : News h₀ L s₁.heap news) (q4 : J 0 [] news) (q5 : (∀ (i : Nat) (v : Value) (us : List Value) (nw : List (Addr × Obj)) (C : Addr) (oC oK : Obj) (mC : Str → Option Value) (s₂ : Shared) (E' : Value → Shared → Prop), i < n → P i v → J i us nw → LCg.NsObj oC mC → oK.data = .cell (some v) → Fr h₀ L s₂.heap m → News h₀ L s₂.heap ((C, oC) :: (C + 1, oK) :: nw) → (∀ p ∈ nw, p.1 ≠ C ∧ p.1 ≠ C + 1) → s₁.heap.get? C = none →
      wpAny (model prog w) A (eval i2 (compEnvC scope ((x, C + 1) :: cl) C env)) (Inner2 prog w A (compEnvC scope ((x, C + 1) :: cl) C env) y elt h₀ L m (J (i + 1)) us nw C oK s₂) E' s₂)) (q6 : LedEndAt h₀ L m s₁ n NoEx J Q) : Cell2At prog w A env scope cl x y i2 elt Q xv s₁
theorem cell2_at {elt i1 i2 : Expr} {x y : Str} {px py : Pos} {scope : Scope} {cl : List (Str × Addr)} {pos : Pos} {Q : Value → Shared → Prop}
    (hclos : closureFor scope env = pure cl) (hc : ∀ n, cellsFrom n scope.names cl = (x, n) :: cl) (hpc : ∀ h, pushCells h scope.names = h.push (cellObj none)) (hkind : scope.kind = .function)
    (hnames : ∀ y ∈ scope.names, y.2 = .local → scope.names.lookup y.1 = some .local) (hx : ∀ C, (compEnvC scope ((x, C + 1) :: cl) C env).kindOf x = some .cell) (hy : scope.names.lookup y = some .local)
    (h : wpAny (model prog w) A (eval i1 env) (Cell2At prog w A env scope cl x y i2 elt Q) E s)
    (hs : ∀ x, foldedSetIterable i1 env x = pure x := by intro _; rfl) (hs2 : ∀ C z, foldedSetIterable i2 (compEnvC scope ((x, C + 1) :: cl) C env) z = pure z := by intro _ _; rfl) :
    wpAny (model prog w) A (eval (E2 elt x px i1 y py i2 [] scope pos) env) Q E s := by
  show wpAny (model prog w) A (eval (.ListComp elt [⟨.Name x px, i1, [], 0⟩, ⟨.Name y py, i2, [], 0⟩] scope pos) env) Q E s
  rw [eval_ListComp]
  refine wpAny_comprehension_free (use := none) rfl hs hclos hkind hnames (wpAny_mono h (fun xv s₁ h₁ => ?_) fun _ _ e => e)
  obtain ⟨n, P, h₀, L, m, news, J, ⟨fp, St, oI, hiter, W, hst, hfp, hIp⟩, F, N, hJ, turn, hd⟩ := h₁
  refine hiter _ _ ?_
  generalize hH : s₁.heap.push oI = H1 at hst ⊢
  have old1 : ∀ b o, s₁.heap.get? b = some o → H1.get? b = some o := fun b o e => hH ▸ Heap.get?_push_of_some _ e
  have hsz1 : H1.objs.size = s₁.heap.objs.size + 1 := by rw [← hH, Heap.size_push]
  refine wpAny_newObj_type (newEnv_cell hc hpc ?_)
  dsimp only
  generalize hH2 : H1.push { cls := .type "list", dict := none, data := .seq ([] : List Value).toArray } = H2
  generalize hH3 : (H2.push { cls := .type "dict", data := .dict #[] }).push (cellObj none) = H3
  have hC : H2.objs.size = H1.objs.size + 1 := by rw [← hH2, Heap.size_push]
  have hsz3 : H3.objs.size = H2.objs.size + 2 := by rw [← hH3, Heap.size_push, Heap.size_push]
  have up12 : ∀ b o, H1.get? b = some o → H2.get? b = some o := fun b o e => hH2 ▸ Heap.get?_push_of_some _ e
  have up23 : ∀ b o, H2.get? b = some o → H3.get? b = some o := fun b o e => hH3 ▸ Heap.get?_push_of_some _ (Heap.get?_push_of_some _ e)
  have up13 : ∀ b o, H1.get? b = some o → H3.get? b = some o := fun b o e => up23 b o (up12 b o e)
  have hKobj : H3.get? (H2.objs.size + 1) = some (cellObj none) := by
    rw [← hH3]
    have := Heap.get?_push_size (H2.push { cls := .type "dict", data := .dict #[] }) (o := cellObj none) rfl
    rwa [Heap.size_push] at this
  have hCobj : H3.get? H2.objs.size = some { cls := .type "dict", data := .dict #[] } := by rw [← hH3]; exact Heap.get?_push_of_some _ (Heap.get?_push_size _ rfl)
  have hDobj : H3.get? H1.objs.size = some { cls := .type "list", dict := none, data := .seq ([] : List Value).toArray } := up23 _ _ (by rw [← hH2]; exact Heap.get?_push_size _ rfl)
  have hn3 : H3.Ns H2.objs.size (fun _ => none) := ⟨_, #[], _, hCobj, rfl, by simp [StrKeys], fun _ => by simp [nsFind, findBy]⟩
  have hfp' : ∀ b ∈ fp, b < H1.objs.size := fun b hb => by rw [hsz1]; exact (hfp b hb).1
  have hDf : H1.objs.size ∉ fp := fun hm => Nat.lt_irrefl _ (hfp' _ hm)
  have a1 : H1.objs.size < H2.objs.size := by rw [hC]; exact Nat.lt_succ_self _
  have hCf : H2.objs.size ∉ fp := fun hm => Nat.lt_asymm a1 (hfp' _ hm)
  have hKf : H2.objs.size + 1 ∉ fp := fun hm => Nat.lt_asymm (Nat.lt_trans a1 (Nat.lt_succ_self _)) (hfp' _ hm)
  have hst3 : St 0 H3 := W.frame _ _ _ hst fun b _ o e => up13 b o e
  have hacc : H3.PlainList H1.objs.size #[] := ⟨_, hDobj⟩
  have k1 : ∀ b o, s₁.heap.get? b = some o → H3.get? b = some o := fun b o e => up13 b o (old1 b o e)
  have fresh1 : ∀ a, s₁.heap.objs.size ≤ a → s₁.heap.get? a = none := fun a ha => Heap.get?_none_of_le ha
  have fresh0 : ∀ a, s₁.heap.objs.size ≤ a → h₀.get? a = none := fun a ha => by
    cases e : h₀.get? a with
    | none => rfl
    | some o' => have := F.keep a o' e; rw [fresh1 a ha] at this; cases this
  have neL : ∀ a, s₁.heap.objs.size ≤ a → a ≠ L := fun a ha e => by
    have := F.ns.lt
    rw [← e] at this
    exact absurd (Nat.lt_of_lt_of_le this ha) (Nat.lt_irrefl _)
  have ltN : ∀ q ∈ news, q.1 < s₁.heap.objs.size := fun q hq => Heap.lt_size (N q hq).1
  have hIs : s₁.heap.objs.size ≤ s₁.heap.objs.size := Nat.le_refl _
  have hDs : s₁.heap.objs.size ≤ H1.objs.size := by rw [hsz1]; exact Nat.le_succ _
  have hCs : s₁.heap.objs.size ≤ H2.objs.size := by rw [hC, hsz1]; exact Nat.le_succ_of_le (Nat.le_succ _)
  have hKs : s₁.heap.objs.size ≤ H2.objs.size + 1 := Nat.le_succ_of_le hCs
  have ltne : ∀ {q a : Nat}, q < s₁.heap.objs.size → s₁.heap.objs.size ≤ a → q ≠ a := fun h1 h2 => Nat.ne_of_lt (Nat.lt_of_lt_of_le h1 h2)
  have go : ∀ (tk0 : Nat), codeAny (model prog w) A (.compLoop (E2 elt x px i1 y py i2 [] scope pos) 0 (.ref s₁.heap.objs.size) (.ref H1.objs.size) (compEnvC scope ((x, H2.objs.size + 1) :: cl) H2.objs.size env))
      (compPost (model prog w) A E none Q (.ref H1.objs.size) H2.objs.size) { s₁ with heap := H3, toks := tk0 } := by
    intro tk0
    refine cell_outer (s := { s₁ with heap := H3, toks := tk0 }) (cenv := compEnvC scope ((x, H2.objs.size + 1) :: cl) H2.objs.size env) (C := H2.objs.size) W hIp J (by simp [compEnvC, relabel, hkind]) (hx _) (by simp [compEnvC]) rfl (lookup_relabel_local hy) (by simp [compEnvC, relabel, hkind]) (hs2 _)
      (Nat.ne_of_lt a1) (Nat.ne_of_lt (Nat.lt_succ_of_lt a1)) hDf hCf hKf (fun b hb => Nat.lt_trans (hfp' b hb) a1) hst3 hacc hn3 hKobj (F.keeps k1) (fun q hq => ⟨k1 _ _ (N q hq).1, (N q hq).2⟩) (fresh0 _ hCs) (neL _ hCs) (fresh0 _ hKs) (neL _ hKs) (fresh0 _ hDs) (neL _ hDs) (fresh0 _ hIs) (neL _ hIs)
      (fun q hq => ⟨ltne (ltN q hq) hCs, ltne (ltN q hq) hDs, ltne (ltN q hq) hIs, ltne (ltN q hq) hKs⟩) hJ ?_ ?_
    · intro i v us nw oC oK mC s₂ E' hi hP hJi hns hdK F₂ N₂ ho
      exact turn i v us nw _ oC oK mC s₂ E' hi hP hJi hns hdK F₂ N₂ ho (fresh1 _ hCs)
    · intro h' tk mC us nw hn hpl hJn F' N' ho hk
      refine ⟨mC, hn, fun h'' hs'' => ?_⟩
      have hCL := neL _ hCs
      have hDL := neL _ hDs
      have hC0 := fresh0 _ hCs
      have ne0 : ∀ {b o}, h₀.get? b = some o → b ≠ H2.objs.size := fun hb e => by rw [e, hC0] at hb; cases hb
      have k2 : ∀ b o, b ≠ H2.objs.size → h'.get? b = some o → h''.get? b = some o := fun b o hb e => hs''.extBut b o hb e
      obtain ⟨k, hpl⟩ := hpl
      refine hd _ h'' tk k us nw hJn ⟨F'.ns.at' fun o e => k2 _ o (Ne.symm hCL) e, fun b o e => k2 b o (ne0 e) (F'.keep b o e), F'.above⟩ (fun p hp => ?_) (fun p hp => (ho p hp).2.1) (fresh1 _ hDs) fun b o _ e => ?_
      · rcases List.mem_cons.mp hp with rfl | hp
        · exact ⟨k2 _ _ (Nat.ne_of_lt a1) hpl, hDL, fresh0 _ hDs⟩
        · exact ⟨k2 _ _ (ho p hp).1 (N' p hp).1, (N' p hp).2⟩
      · have hlt := Heap.lt_size e
        exact k2 b o (ltne hlt hCs) (hk b o (ltne hlt hCs) (ltne hlt hIs) (ltne hlt hDs) (ltne hlt hKs) (k1 b o e))
  exact start_outer (cenv := compEnvC scope ((x, H2.objs.size + 1) :: cl) H2.objs.size env) (go _) (W.self 0 _ _ _ hst3 (go _))
end
end Mine
end
section
open PySem PySem.W PyProof.Rows PySem.Calls
set_option maxRecDepth 100000
set_option maxHeartbeats 0
namespace Mine
def ordersF : Nat → List Nat → List (List Nat)
  | 0, _ => [[]]
  | n + 1, xs => xs.flatMap fun x => (ordersF n (xs.filter (· != x))).map (x :: ·)
/-- an object that is a list of numbers -/
def IntsO (p : List Nat) (o : Obj) : Prop := ∃ vs k, o = lstO vs.toArray k ∧ IntsN vs p
abbrev refsOf (els : List (Addr × Obj)) : List Value := els.map fun e => Value.ref e.1
/-- what the outer turns have made -/
inductive JOu (xs : List Nat) (n : Nat) (e0 : Addr × Obj) (i : Nat) (us : List Value) (nw : List (Addr × Obj)) : Prop
  | mk (els rest : List (Addr × Obj)) (q1 : nw = e0 :: rest) (q2 : (∀ e ∈ els, e ∈ rest)) (q3 : us = refsOf els) (q4 : Paired (fun p e => IntsO p e.2) ((xs.take i).flatMap fun x => (ordersF n (xs.filter (· != x))).map (x :: ·)) els) : JOu xs n e0 i us nw
def neV (x : Nat) : Value → Bool := fun v => match v with
  | .int z _ => z != (x : Int)
  | _ => false
theorem paired_eq {vs ys : List Value} (h : Paired (fun v y => y = v) vs ys) : ys = vs := by
  induction h with
  | nil => rfl
  | cons e _ ih => rw [e, ih]
theorem news_add {h₀ h h' : Heap} {L D : Addr} {m : Str → Option Value} {o : Obj} {news : List (Addr × Obj)} (F : Fr h₀ L h m) (N : News h₀ L h' news) (hD : h'.get? D = some o) (hn : h.get? D = none) : News h₀ L h' ((D, o) :: news) := fun q hq => by
  rcases List.mem_cons.mp hq with rfl | hq
  · refine ⟨hD, fun e => ?_, ?_⟩
    · obtain ⟨oL, _, _, hoL, _⟩ := F.ns
      rw [← e, hn] at hoL; cases hoL
    · cases e : h₀.get? D with
      | none => rfl
      | some o => have := F.keep _ _ e; rw [hn] at this; cases this
  · exact N q hq
theorem flat_len {α β : Type} {f : α → List β} {N : Nat} : ∀ {xs : List α}, (∀ x ∈ xs, (f x).length ≤ N) → (xs.flatMap f).length ≤ xs.length * N
  | [], _ => by simp
  | x :: xs, h => by
    have ih := flat_len (f := f) (N := N) (xs := xs) fun y hy => h y (.tail _ hy)
    have h1 := h x (.head _)
    rw [List.flatMap_cons, List.length_append, List.length_cons, Nat.succ_mul]
    omega
theorem ordersF_len : ∀ (n : Nat) (xs : List Nat), xs.length ≤ 4 → (ordersF n xs).length ≤ 4 ^ n
  | 0, _, _ => by simp [ordersF]
  | n + 1, xs, h => by
    unfold ordersF
    have h1 := flat_len (f := fun x => (ordersF n (xs.filter (· != x))).map (x :: ·)) (N := 4 ^ n) (xs := xs) (fun x _ => by
      rw [List.length_map]
      exact ordersF_len n _ (Nat.le_trans (List.length_filter_le _ _) h))
    have h2 : xs.length * 4 ^ n ≤ 4 * 4 ^ n := Nat.mul_le_mul_right _ h
    rw [Nat.pow_succ]
    omega
theorem ordersF_mem : ∀ (n : Nat) (xs p : List Nat), p ∈ ordersF n xs → p.length = n
  | 0, _, p, h => by simp [ordersF] at h; simp [h]
  | n + 1, xs, p, h => by
    unfold ordersF at h
    obtain ⟨x, _, h⟩ := List.mem_flatMap.mp h
    obtain ⟨q, hq, rfl⟩ := List.mem_map.mp h
    rw [List.length_cons, ordersF_mem n _ q hq]
theorem orders_lens {n i : Nat} {xs : List Nat} {x : Nat} {els els5 : List (Addr × Obj)} (h : xs.length ≤ 4) (hn : n + 1 ≤ 4) (hP : Paired (fun p e => IntsO p e.2) ((xs.take i).flatMap fun x => (ordersF n (xs.filter (· != x))).map (x :: ·)) els)
    (hP5 : Paired (fun p e => IntsO p e.2) (ordersF n (xs.filter (· != x))) els5) : (refsOf els).length + els5.length ≤ 100000 := by
  have h1 := flat_len (f := fun x => (ordersF n (xs.filter (· != x))).map (x :: ·)) (N := 4 ^ n) (xs := xs.take i) (fun x _ => by
      rw [List.length_map]
      exact ordersF_len n _ (Nat.le_trans (List.length_filter_le _ _) h))
  have h2 := ordersF_len n (xs.filter (· != x)) (Nat.le_trans (List.length_filter_le _ _) h)
  have e1 := hP.length
  have e2 := hP5.length
  have h3 : (4 : Nat) ^ n ≤ 4 ^ 3 := Nat.pow_le_pow_right (by decide) (by omega)
  have h4 : (xs.take i).length ≤ 4 := Nat.le_trans (List.length_take_le' ..) h
  have h5 : (xs.take i).length * 4 ^ n ≤ 4 * 4 ^ n := Nat.mul_le_mul_right _ h4
  rw [List.length_map]
  omega
/-- what the inner turns have made -/
inductive JIn (e0 : Addr × Obj) (els els5 : List (Addr × Obj)) (x : Nat) (ps : List (List Nat)) (j : Nat) (us : List Value) (nw : List (Addr × Obj)) : Prop
  | mk (els2 rest : List (Addr × Obj)) (q1 : nw = e0 :: rest) (q2 : us = refsOf (els ++ els2)) (q3 : (∀ e ∈ els ++ els2, e ∈ rest)) (q4 : (∀ e ∈ els5, e ∈ rest)) (q5 : Paired (fun p e => IntsO p e.2) ((ps.take j).map (x :: ·)) els2) : JIn e0 els els5 x ps j us nw
theorem jin_end {xs : List Nat} {n i x : Nat} {e0 : Addr × Obj} {els els5 : List (Addr × Obj)} {us : List Value} {nw : List (Addr × Obj)} (hx : xs[i]? = some x) (hP : Paired (fun p e => IntsO p e.2) ((xs.take i).flatMap fun x => (ordersF n (xs.filter (· != x))).map (x :: ·)) els)
    (hP5 : Paired (fun p e => IntsO p e.2) (ordersF n (xs.filter (· != x))) els5) (h : JIn e0 els els5 x (ordersF n (xs.filter (· != x))) els5.length us nw) : JOu xs n e0 (i + 1) us nw := by
  obtain ⟨els2, rest, rfl, rfl, hsub, _, hP2⟩ := h
  refine ⟨els ++ els2, rest, rfl, hsub, rfl, ?_⟩
  have e : xs.take (i + 1) = xs.take i ++ [x] := by rw [List.take_succ, hx]; rfl
  rw [← hP5.length, List.take_length] at hP2
  rw [e, List.flatMap_append]
  exact Mine.Paired.app hP (by simpa using hP2)
theorem filt_cons {vs : List Value} {ns : List Nat} {v : Value} {n : Nat} (h : IntsN (v :: vs) (n :: ns)) : (∃ t, v = .int (n : Int) t) ∧ IntsN vs ns := by
  obtain ⟨hl, h⟩ := h
  refine ⟨?_, by simpa using hl, fun i u hu => ?_⟩
  · obtain ⟨m, t, e1, e2⟩ := h 0 v rfl
    simp at e1
    exact ⟨t, by rw [e2, e1]⟩
  · obtain ⟨m, t, e1, e2⟩ := h (i + 1) u (by simpa using hu)
    exact ⟨m, t, by simpa using e1, e2⟩
theorem ints_cons {vs : List Value} {ns : List Nat} {n : Nat} {t : Tok} (h : IntsN vs ns) : IntsN (.int (n : Int) t :: vs) (n :: ns) := by
  obtain ⟨hl, h⟩ := h
  refine ⟨by simp [hl], fun i u hu => ?_⟩
  cases i with
  | zero => simp at hu; exact ⟨n, t, rfl, hu.symm⟩
  | succ i => simpa using h i u (by simpa using hu)
theorem ints_ne {vs : List Value} {xs : List Nat} {x : Nat} (h : IntsN vs xs) : IntsN (vs.filter (neV x)) (xs.filter (· != x)) := by
  induction xs generalizing vs with
  | nil =>
    have : vs = [] := List.eq_nil_of_length_eq_zero h.1
    subst this; exact ⟨rfl, by simp⟩
  | cons n ns ih =>
    rcases vs with _ | ⟨v, vs⟩
    · exact absurd h.1 (by simp)
    · obtain ⟨⟨t, rfl⟩, h2⟩ := filt_cons h
      have ih := ih h2
      by_cases e : n = x
      · subst e
        rw [List.filter_cons_of_neg (by simp [neV]), List.filter_cons_of_neg (by simp)]
        exact ih
      · rw [List.filter_cons_of_pos (by simp [neV]; omega), List.filter_cons_of_pos (by simpa using e)]
        exact ints_cons ih
theorem ints_ne_len {vs : List Value} {xs : List Nat} {x n : Nat} (h : IntsN vs xs) (hnd : xs.Nodup) (hx : x ∈ xs) (hl : vs.length = n + 1) : (vs.filter (neV x)).length = n := by
  rw [(ints_ne h).1, ← hnd.erase_eq_filter, List.length_erase_of_mem hx, ← h.1, hl]; rfl
local macro_rules | `(tactic| walk_at "newList") => `(tactic| ((rename InElt _ _ => kE'); refine hold_ ?_))
local macro_rules | `(tactic| walk_at "call ref") => `(tactic| ((with_reducible show wpAny _ _ (call (Value.ref 112) _) _ _ _); refine hold_ ?_))
local macro_rules | `(tactic| k_room) => `(tactic| ktr_room)
local macro_rules | `(tactic| walk_at "truthy ref") => `(tactic| (k_here; refine wpAny_truthy_list ⟨_, Fr.keep (by assumption) _ _ (by assumption), rfl, _, rfl⟩ (by simp only [List.size_toArray]; omega) ?_))
local macro_rules | `(tactic| walk_at "eval ListComp") => `(tactic| (k_here; refine hold_ ?_))
theorem orders_c {w : World} {loose : List Str} {mean : ExcName → Option Value} {mg mb : Str → Option Value} (nO : Nat) : ∀
  {dp un : Nat} {gd : Option (List Code)} {cn : Str} {cs : Scope} {a : Addr} {ccd : Value} {cl : List (Str × Addr)} {outer : List Env} {A₀ : Around} {base h₀ : Heap} {L : Addr} {m : Str → Option Value} {s : Shared} {Q E : Value → Shared → Prop}
  {l : Addr} {vs : List Value} {xs : List Nat} {kl : Nat}
  (B : Below A₀ base outer h₀) (F : Fr h₀ L s.heap m) (X : (hd.heap_39 w.params).In h₀) (T : Top topProg loose mean mg mb h₀) (hk : cs.kind = .function) (hdp : dp + 16 * (nO + 1) < recursionLimit) (hun : un + 128 * (nO + 1) < cLine)
  (hl : s.heap.get? l = some (lstO vs.toArray kl)) (hxs : IntsN vs xs) (hnd : xs.Nodup) (hlen : vs.length = nO) (hn8 : nO ≤ 4)
  (hret : ∀ (D : Addr) (h' : Heap) (tk' k : Nat) (els : List (Addr × Obj)), Paired (fun p e => IntsO p e.2) (ordersF nO xs) els → s.heap.StaysIn h' → h'.get? D = some (lstO (refsOf els).toArray k) → s.heap.get? D = none → (∀ e ∈ els, h'.get? e.1 = some e.2 ∧ s.heap.get? e.1 = none ∧ e.1 ≠ D) → Q (.ref D) { s with heap := h', toks := tk' }),
  wpAny (model Challenge.rw_ij0195_02.row.prog w) (ktrTop dp un gd cn cs L a ccd cl outer) (call (.ref 112) [.ref l]) Q E s := by
  induction nO with
  | zero =>
    intro dp un gd cn cs a ccd cl outer A₀ base h₀ L m s Q E l vs xs kl B F X T hk hdp hun hl hxs hnd hlen hn8 hret
    w_strict (
      (revert X; k_fill; intro X)
      refine wpAny_call ?_
      refine' callPC ?k1 ?k2 ?k3 ?k5 ?kA ?kF ?kK ?k6 ?k7 ?k8 ?k9 ?kB ?kD ?_ ?c2 ?c3 ?c4
      (case kA => exact rfl); (case kF => exact rfl); (case kK => assumption); (case k1 => k_asm); (case k2 => k_asm); (case k3 => k_asm); (case k5 => k_asm); (case k6 => k_is); (case k7 => k_is); (case k8 => ktr_room); (case k9 => exact BindsTo.of_eq rfl); (case kB => exact kindsX rfl); (case kD => decide +kernel); (case c2 => exact rfl); (case c3 => exact rfl); (case c4 => exact rfl)
      k_whole
      intro L' h' tk' cells' F' N' Y' B' X' T'
      k_cells Y'
      (try simp only [List.cons_append, List.nil_append] at N')
      (try dsimp only)
      (try k_lift B')
      (try k_fold)
      k_steps
      · have hv : vs = [] := List.eq_nil_of_length_eq_zero hlen
        with_reducible rename Fr _ _ _ _ => F1
        with_reducible rename News _ _ _ _ => N1
        refine hret _ _ _ _ [(_, _)] (.cons ⟨[], 0, rfl, ⟨rfl, by simp⟩⟩ .nil) F1.keep (N1 _ (.head _)).1 (N1.fresh (.head _)) (fun e he => ?_)
        rw [List.mem_singleton.mp he]
        refine ⟨(N1 _ (.tail _ (.head _))).1, N1.fresh (.tail _ (.head _)), ?_⟩
        k_ne
      · have hv : vs = [] := List.eq_nil_of_length_eq_zero hlen
        subst hv
        simp at *)
  | succ nO ih =>
    intro dp un gd cn cs a ccd cl outer A₀ base h₀ L m s Q E l vs xs kl B F X T hk hdp hun hl hxs hnd hlen hn8 hret
    w_strict (
      (revert X; k_fill; intro X)
      refine wpAny_call ?_
      refine' callPC ?k1 ?k2 ?k3 ?k5 ?kA ?kF ?kK ?k6 ?k7 ?k8 ?k9 ?kB ?kD ?_ ?c2 ?c3 ?c4
      (case kA => exact rfl); (case kF => exact rfl); (case kK => assumption); (case k1 => k_asm); (case k2 => k_asm); (case k3 => k_asm); (case k5 => k_asm); (case k6 => k_is); (case k7 => k_is); (case k8 => ktr_room); (case k9 => exact BindsTo.of_eq rfl); (case kB => exact kindsX rfl); (case kD => decide +kernel); (case c2 => exact rfl); (case c3 => exact rfl); (case c4 => exact rfl)
      k_whole
      intro L' h' tk' cells' F' N' Y' B' X' T'
      k_cells Y'
      rename_i oIt dIt
      (try simp only [List.cons_append, List.nil_append] at N')
      (try dsimp only)
      (try k_lift B')
      (try k_fold)
      k_steps
      · have hv : vs = [] := by simpa using (by assumption : vs.toArray.isEmpty = true)
        subst hv
        simp at hlen
      · refine of_hold ?_
        refine cell2_at (by with_unfolding_all rfl) (by intro _; rfl) (by intro _; rfl) (by rfl) (by decide) (by intro _; rfl) (by rfl) ?_
        k_steps
        with_reducible rename Fr _ _ _ _ => F1
        with_reducible rename News _ _ _ _ => N1
        refine ⟨_, _, _, _, _, _, JOu xs nO (L' + 1, oIt), srcp_list (vs := vs) rfl ⟨_, Fr.keep (by assumption) _ _ hl, rfl, _, rfl⟩ trivial, F1, N1, ⟨[], [], rfl, (by simp), rfl, by simpa using .nil⟩, ?turn, ?done⟩
        (case turn =>
          clear F1 N1
          intro i v us nw C oC oK mC s2 E' hi hv hJ hC hoK F3 N3 hoff hC1
          obtain ⟨els, rest, rfl, hsub, rfl, hP⟩ := hJ
          obtain ⟨x, t, hx, e⟩ := hxs.2 _ _ hv
          subst e
          k_steps
          refine of_hold ?_
          refine comp_at (by with_unfolding_all rfl) (by decide) (by rfl) (by decide) (by rfl) ?_
          k_steps
          with_reducible rename Fr _ _ _ _ => F4
          with_reducible rename News _ _ _ _ => N4
          refine ⟨_, _, _, _, _, _, neV x, fun v y => y = v, src_list (vs := vs) rfl ⟨_, Fr.keep (by assumption) _ _ hl, rfl, _, rfl⟩, by rw [sizeLine_eq]; omega, F4, N4, ?ht, ?he, ?hd⟩
          (case ht =>
            intro j u C2 oC2 m5 s5 E5 hu hC2 hm5 F5 N5 hlt5
            obtain ⟨z, t5, hz, e⟩ := hxs.2 _ _ hu
            subst e
            refine wpAny_tests_one ?_
            k_steps
            exact ⟨_, _, rfl, fun b o e => e⟩)
          (case he =>
            intro j u C2 oC2 m5 s5 E5 hu hpu hC2 hm5 F5 N5 hlt5
            obtain ⟨z, t5, hz, e⟩ := hxs.2 _ _ hu
            subst e
            k_steps
            exact ⟨_, _, rfl, fun b o e => e⟩)
          (case hd =>
            intro D h4 tk4 vs' ys hlen4 hitems F5 N5 hD hDn hst hP4
            (obtain rfl := items_eq hlen4 hitems)
            have eys := paired_eq hP4
            subst eys
            obtain ⟨kD, hDo⟩ := hD
            have N6 := news_add F4 N5 hDo hDn
            clear N5 F4 N4
            k_steps
            refine of_hold ?_
            with_reducible rename Fr _ _ _ _ => F6
            with_reducible rename News _ _ _ _ => N6
            with_unfolding_all refine' ih ?k1 F6 ?k3 ?k4 ?k5 ?k6 ?k7 (N6 _ (.head _)).1 (ints_ne hxs (x := x)) (hnd.filter _) (ints_ne_len hxs hnd (List.mem_of_getElem? hx) hlen) (by omega) ?_
            (case k1 => exact B')
            (case k3 => k_asm)
            (case k4 => k_asm)
            (case k5 => exact rfl)
            (case k6 => show dp + 1 + 16 * (nO + 1) < recursionLimit; omega)
            (case k7 => show un + 3 + 128 * (nO + 1) < cLine; omega)
            intro D5 h5 tk5 k5 els5 hP5 st5 hD5 hD5n hels5
            have k25 : s2.heap.StaysIn h5 := fun b o e => st5 b o (hst b o e)
            have none2 : ∀ {b}, h4.get? b = none → s2.heap.get? b = none := fun {b} hb => by
              cases q : s2.heap.get? b with
              | none => rfl
              | some o => have := hst b o q; rw [hb] at this; cases this
            refine ⟨h5, tk5, (L' + 1, oIt) :: (els5 ++ rest), els5.length, fun i v => (refsOf els5)[i]? = some v, JIn (L' + 1, oIt) els els5 x (ordersF nO (xs.filter (· != x))), rfl, F6.keeps st5, fun p hp => ?n1, k25, fun p hp => ?n2, ?n3, ?n4, ⟨[], els5 ++ rest, rfl, by simp, fun e he => List.mem_append_right _ (hsub e (by simpa using he)), fun e he => List.mem_append_left _ he, by simpa using .nil⟩, ?n5, ?n6⟩
            (case n1 =>
              rcases List.mem_cons.mp hp with rfl | hp
              · have := N6 (L' + 1, oIt) (by simp)
                exact ⟨st5 _ _ this.1, this.2⟩
              · rcases List.mem_append.mp hp with hp | hp
                · exact news_add (news := []) F6 (fun _ h => by cases h) (hels5 p hp).1 (hels5 p hp).2.1 _ (.head _)
                · have := N6 p (by simp [hp])
                  exact ⟨st5 _ _ this.1, this.2⟩)
            (case n2 =>
              rcases List.mem_cons.mp hp with rfl | hp
              · exact .inl (.head _)
              · rcases List.mem_append.mp hp with hp | hp
                · exact .inr (none2 (hels5 p hp).2.1)
                · exact .inl (.tail _ hp))
            (case n3 =>
              have e5 : els5.length = (refsOf els5).length := by simp [refsOf]
              rw [e5]
              exact srcp_list rfl ⟨_, hD5, rfl, _, rfl⟩ (.inl (none2 hD5n)))
            (case n4 => exact orders_lens (by rw [← hxs.1]; omega) hn8 hP hP5)
            (case n6 => exact fun us nw h => jin_end hx hP hP5 h)
            (case n5 =>
              clear F6 N6
              intro j u us nw oC6 mC6 s6 E6 hj hu hJ hC6 hm6 F6 N6 hoff6
              obtain ⟨els2, rest6, rfl, rfl, hsub2, hsub5, hP2⟩ := hJ
              obtain ⟨e, he, rfl⟩ : ∃ e, els5[j]? = some e ∧ u = .ref e.1 := by
                rw [List.getElem?_map] at hu
                cases q : els5[j]? with
                | none => rw [q] at hu; cases hu
                | some e => rw [q] at hu; exact ⟨e, rfl, (Option.some.inj hu).symm⟩
              obtain ⟨p, hp, vs7, k7, e7, hvs7⟩ := paired_at hP5 he
              have N7 : News _ L' _ ((e.1, lstO vs7.toArray k7) :: (C, oC6) :: (C + 1, oK) :: (L' + 1, oIt) :: rest6) := fun q hq => by
                rcases List.mem_cons.mp hq with rfl | hq
                · rw [← e7]
                  exact N6 e (.tail _ (.tail _ (.tail _ (hsub5 e (List.mem_of_getElem? he)))))
                · exact N6 q hq
              clear N6
              have cE6 := InElt.start s6.heap
              k_steps
              refine of_hold ?_
              with_reducible rename Fr _ _ _ _ => F8
              with_reducible rename News _ _ _ _ => N8
              refine wpAny_newList ?_ (by rw [sizeLine_eq]; simp)
              have F9 := F8.push (o := { cls := .type "list", data := .seq [Value.int (x : Int) t].toArray })
              have N9 := News.push F8 N8 ({ cls := .type "list", data := .seq [Value.int (x : Int) t].toArray })
              have hl9 : ∀ p ∈ (e.1, lstO vs7.toArray k7) :: (C, oC6) :: (C + 1, oK) :: (L' + 1, oIt) :: rest6, @LT.lt Nat _ p.1 s6.heap.objs.size := fun p hp => Heap.lt_size (N8 p hp).1
              k_steps
              refine P.add_list (items := [Value.int (x : Int) t].toArray) (items2 := vs7.toArray) (N9 _ (.head _)).1 (N9 _ (.tail _ (.head _))).1 ?_ ?_
              · have hb1 : s6.heap.get? (s6.heap.push ({ cls := .type "list", data := .seq [Value.int (x : Int) t].toArray } : Obj)).objs.size = none := Heap.get?_none_of_le (by rw [Heap.size_push]; exact Nat.le_succ _)
                have N10 := News.push F9 N9 ({ cls := .type "list", data := .seq ([Value.int (x : Int) t].toArray ++ vs7.toArray) })
                refine ⟨_, _, (L' + 1, oIt) :: ((s6.heap.push ({ cls := .type "list", data := .seq [Value.int (x : Int) t].toArray } : Obj)).objs.size, ({ cls := .type "list", data := .seq ([Value.int (x : Int) t].toArray ++ vs7.toArray) } : Obj)) :: rest6, rfl, F9.push _, fun q hq => ?_, ⟨els2 ++ [((s6.heap.push ({ cls := .type "list", data := .seq [Value.int (x : Int) t].toArray } : Obj)).objs.size, ({ cls := .type "list", data := .seq ([Value.int (x : Int) t].toArray ++ vs7.toArray) } : Obj))], ((s6.heap.push ({ cls := .type "list", data := .seq [Value.int (x : Int) t].toArray } : Obj)).objs.size, ({ cls := .type "list", data := .seq ([Value.int (x : Int) t].toArray ++ vs7.toArray) } : Obj)) :: rest6, rfl, by simp [refsOf], fun e he => ?_, fun e he => .tail _ (hsub5 e he), ?_⟩, fun b o _ eo => Heap.get?_push_of_some _ (Heap.get?_push_of_some _ eo), fun q hq => ?_⟩
                · rcases List.mem_cons.mp hq with rfl | hq
                  · exact N10 _ (by simp)
                  · rcases List.mem_cons.mp hq with rfl | hq
                    · exact N10 _ (.head _)
                    · exact N10 _ (by simp [hq])
                · rw [← List.append_assoc] at he
                  rcases List.mem_append.mp he with he | he
                  · exact .tail _ (hsub2 e he)
                  · rw [List.mem_singleton.mp he]; exact .head _
                · have e4 : (ordersF nO (xs.filter (· != x))).take (j + 1) = (ordersF nO (xs.filter (· != x))).take j ++ [p] := by rw [List.take_succ, hp]; rfl
                  rw [e4, List.map_append]
                  refine Mine.Paired.app hP2 (.cons ⟨.int (x : Int) t :: vs7, 0, ?_, ints_cons hvs7⟩ .nil)
                  simp
                · rcases List.mem_cons.mp hq with rfl | hq
                  · exact .inl (.head _)
                  · rcases List.mem_cons.mp hq with rfl | hq
                    · exact .inr (.inr hb1)
                    · exact .inl (.tail _ hq)
              · have h1 := ordersF_mem nO _ p (List.mem_of_getElem? hp)
                have h2 := hvs7.1
                rw [sizeLine_eq]
                simp only [List.size_toArray, List.length_cons, List.length_nil]
                omega)))
        (case done =>
          intro D h9 tk9 k9 us nw hJ F9 N9 hoff9 hDn hk9
          obtain ⟨els, rest, rfl, hsub, rfl, hP⟩ := hJ
          rw [hxs.1, List.take_length] at hP
          refine hret D h9 tk9 k9 els hP (fun b o e => F9.keep b o e) (N9 _ (.head _)).1 (N9.fresh (.head _)) fun e he => ⟨(N9 e (.tail _ (.tail _ (hsub e he)))).1, (N9 e (.tail _ (.tail _ (hsub e he)))).2.2, hoff9 e (.tail _ (hsub e he))⟩))
end Mine
end
section
open PySem PySem.W PyProof.Rows PySem.Calls
set_option maxRecDepth 100000
set_option maxHeartbeats 0
namespace Mine
/-- a for whose target stands in a cell: J tells what holds between the turns, of the names and the ledger -/
inductive ForJ (prog : Program) (w : World) (A : Around) (env : Env) (body : List Stmt) (K : Addr) (Q : Flow → Shared → Prop) (E : Value → Shared → Prop) (xv : Value) (s₁ : Shared) : Prop
  | mk (h₀ : Heap) (n : Nat) (P : Nat → Value → Prop) (oK : Obj) (news : List (Addr × Obj)) (m₀ : Str → Option Value) (vK : Option Value) (J : Nat → (Str → Option Value) → List (Addr × Obj) → Prop) (q1 : SrcP prog w A xv s₁ n P (fun b => ∃ o, ∀ i m nw, J i m nw → (b, o) ∈ nw)) (q2 : Fr h₀ env.locals s₁.heap m₀) (q3 : News h₀ env.locals s₁.heap ((K, oK) :: news)) (q4 : oK.data = .cell vK) (q5 : J 0 m₀ news) (q6 : (∀ i m nw, J i m nw → ∀ p ∈ nw, @Ne Nat p.1 K)) (q7 : (∀ (iT : Nat) (vT : Value) (IT : Addr) (oI oT : Obj) (mT : Str → Option Value) (nw : List (Addr × Obj)) (hT : Heap) (tkT : Nat) (hiT : iT < n) (hvT : P iT vT) (HJ : J iT mT nw) (hoT : oT.data = .cell (some vT)) (FT : Fr h₀ env.locals hT mT) (NT : News h₀ env.locals hT ((IT, oI) :: (K, oT) :: nw)) (hIT : ∀ p ∈ (K, oT) :: nw, @Ne Nat p.1 IT),
      wpAny (model prog w) A (execs body env) (UnrPost h₀ env.locals { s₁ with heap := hT, toks := tkT } IT oI (fun m' nw' => ∃ nw2, nw' = (K, oT) :: nw2 ∧ J (iT + 1) m' nw2) Q) E { s₁ with heap := hT, toks := tkT })) (q8 : (∀ (mT : Str → Option Value) (nw : List (Addr × Obj)) (oT : Obj) (vT : Option Value) (hT : Heap) (tkT : Nat) (HJ : J n mT nw) (hoT : oT.data = .cell vT) (FT : Fr h₀ env.locals hT mT) (NT : News h₀ env.locals hT ((K, oT) :: nw)), Q .next { s₁ with heap := hT, toks := tkT })) : ForJ prog w A env body K Q E xv s₁
section
variable {prog : Program} {w : World} {A : Around} {E : Value → Shared → Prop} {s : Shared} {env : Env}
theorem for_cellJ {x : Str} {px pos : Pos} {iter : Expr} {body : List Stmt} {K : Addr} {Q : Flow → Shared → Prop}
    (hkf : env.scope.kind = .function) (hx : env.kindOf x = some .cell) (hcl : env.cells.lookup x = some K)
    (h : wpAny (model prog w) A (eval iter env) (ForJ prog w A env body K Q E) E s)
    (hs : ∀ x, foldedSetIterable iter env x = pure x := by intro _; rfl)
    (hE : PassesOwn (model prog w) A env E := by passes_own) :
    wpAny (model prog w) A (exec (.For (.Name x px) iter body [] pos) env) Q E s := by
  refine wpAny_For (wpAny_mono h (fun xv s₁ h₁ => ?_) fun _ _ e => e) hs
  obtain ⟨h₀, n, P, oK, news, m₀, vK, J, ⟨fp, St, o, hiter, W, hst, hfp, hIp⟩, F, N, hoK, hJ, hoff, turn, done⟩ := h₁
  refine hiter _ _ ?_
  generalize hIe : s₁.heap.objs.size = I at W hfp hIp hst ⊢
  have hIlt : ∀ p ∈ (K, oK) :: news, @LT.lt Nat _ p.1 I := fun p hp => by rw [← hIe]; exact Heap.lt_size (N p hp).1
  have hI0 : h₀.get? I = none := by
    cases q : h₀.get? I with
    | none => rfl
    | some o =>
      have := Heap.lt_size (F.keep _ _ q)
      rw [hIe] at this
      exact absurd this (Nat.lt_irrefl _)
  have hIL : I ≠ env.locals := by
    have := F.ns.lt
    rw [hIe] at this
    exact Ne.symm (Nat.ne_of_lt this)
  have hKI : K ≠ I := Nat.ne_of_lt (hIlt (K, oK) (.head _))
  have N0 : ∀ ob, News h₀ env.locals (s₁.heap.push ob) ((K, oK) :: news) := fun ob p hp => ⟨Heap.get?_push_of_some _ (N p hp).1, (N p hp).2⟩
  have hKf : K ∉ fp := fun hm => by
    rcases (hfp K hm).2 with e | ⟨ob, hb⟩
    · exact hKI e
    · exact hoff _ _ _ hJ _ (hb _ _ _ hJ) rfl
  refine codeAny_forLoop
    (fun k s' => ∃ (h' : Heap) (tk i : Nat) (oK' : Obj) (vc : Option Value) (m : Str → Option Value) (nw : List (Addr × Obj)), s' = { s₁ with heap := h', toks := tk } ∧ St i h' ∧ Fr h₀ env.locals h' m ∧ News h₀ env.locals h' ((K, oK') :: nw) ∧ oK'.data = .cell vc ∧ J i m nw ∧ (∀ p ∈ nw, @Ne Nat p.1 I) ∧ i ≤ n ∧ k = n + 1 - i) ?_ (n + 1)
    ⟨_, _, 0, oK, vK, m₀, news, rfl, hst, F.push _, N0 _, hoK, hJ, fun p hp => Nat.ne_of_lt (hIlt p (.tail _ hp)), Nat.zero_le _, rfl⟩
  rintro k s' ⟨h', tk, i, oK', vc, m, nw, rfl, hst', F', N', hoK', hJ', hIn, hi, rfl⟩
  have hwr : ∀ b o, b ≠ I → ∀ h₁ : Heap, (∀ b o, b ∉ [I] → h'.get? b = some o → h₁.get? b = some o) → h'.get? b = some o → h₁.get? b = some o := fun b o hb h₁ hk e => hk b o (fun hq => hb (List.mem_singleton.mp hq)) e
  have next : ∀ h₁ : Heap, (∀ b o, b ∉ [I] → h'.get? b = some o → h₁.get? b = some o) → Fr h₀ env.locals h₁ m ∧ News h₀ env.locals h₁ ((K, oK') :: nw) := fun h₁ hk₁ =>
    ⟨⟨F'.ns.at' fun o e => hwr _ o (Ne.symm hIL) h₁ hk₁ e, fun b o e => hwr b o (fun q => by rw [q, hI0] at e; cases e) h₁ hk₁ (F'.keep b o e), F'.above⟩, fun p hp => ⟨hwr _ _ (by
      rcases List.mem_cons.mp hp with rfl | hp
      · exact hKI
      · exact hIn p hp) h₁ hk₁ (N' p hp).1, (N' p hp).2⟩⟩
  by_cases hlti : i < n
  · refine W.item i _ _ _ hlti hst' fun v h₁ tk₁ hP hst₁ hk₁ => ?_
    obtain ⟨F₁, N₁⟩ := next h₁ hk₁
    refine wpAny_assign_Name (wpAny_storeName_cell hkf hx hcl ⟨oK', (N₁ _ (.head _)).1, hoK'⟩ fun h₂ hv₂ hs₂ => ?_)
    obtain ⟨oT, hoT, hdT⟩ := hv₂
    have hKN := (N₁ _ (.head _)).2
    have F₂ : Fr h₀ env.locals h₂ m := F₁.change hs₂ hKN.1 hKN.2
    have N₂ : News h₀ env.locals h₂ ((K, oT) :: nw) := fun p hp => by
      rcases List.mem_cons.mp hp with rfl | hp
      · exact ⟨hoT, hKN⟩
      · exact ⟨hs₂.extBut _ _ (hoff _ _ _ hJ' p hp) (N₁ p (.tail _ hp)).1, (N₁ p (.tail _ hp)).2⟩
    have hst₂ : St (i + 1) h₂ := W.frame _ _ _ hst₁ fun b hb o e => hs₂.extBut b o (fun h => hKf (h ▸ hb)) e
    obtain ⟨oI, hoI⟩ : ∃ oI, h₂.get? I = some oI := by
      cases e : h₂.get? I with
      | none => exact absurd e (hIp _ _ hst₂)
      | some o => exact ⟨o, rfl⟩
    have N₃ : News h₀ env.locals h₂ ((I, oI) :: (K, oT) :: nw) := fun p hp => by
      rcases List.mem_cons.mp hp with rfl | hp
      · exact ⟨hoI, hIL, hI0⟩
      · exact N₂ p hp
    refine wpAny_mono (wpAny_passesOwn hE (turn i v I oI oT m nw h₂ tk₁ hlti hP hJ' hdT F₂ N₃ (fun p hp => by
      rcases List.mem_cons.mp hp with rfl | hp
      · exact hKI
      · exact hIn p hp))) (fun f s₃ h₃ => ?_) fun _ _ e => e
    have fin : UnrEnd h₀ env.locals { s₁ with heap := h₂, toks := tk₁ } I oI (fun m' nw' => ∃ nw2, nw' = (K, oT) :: nw2 ∧ J (i + 1) m' nw2) s₃ → ∃ k', k' < n + 1 - i ∧ ∃ (h' : Heap) (tk j : Nat) (oK' : Obj) (vc : Option Value) (m : Str → Option Value) (nw : List (Addr × Obj)), s₃ = { s₁ with heap := h', toks := tk } ∧ St j h' ∧ Fr h₀ env.locals h' m ∧ News h₀ env.locals h' ((K, oK') :: nw) ∧ oK'.data = .cell vc ∧ J j m nw ∧ (∀ p ∈ nw, @Ne Nat p.1 I) ∧ j ≤ n ∧ k' = n + 1 - j := by
      rintro ⟨h₄, tk₄, m₄, news₄, e, F₄, N₄, hn₄, nw2, rfl, hJ₄⟩
      refine ⟨n + 1 - (i + 1), by omega, h₄, tk₄, i + 1, oT, some v, m₄, nw2, e, W.frame _ _ _ hst₂ fun b hb o eo => ?_, F₄, fun p hp => N₄ p (.tail _ hp), hdT, hJ₄, fun p hp => hn₄ p (.tail _ hp), hlti, rfl⟩
      rcases (hfp b hb).2 with rfl | ⟨ob, hob⟩
      · rw [hoI] at eo; cases eo; exact (N₄ _ (.head _)).1
      · have h1 := (N₂ _ (.tail _ (hob _ _ _ hJ'))).1
        rw [show h₂.get? b = some ob from h1] at eo; cases eo
        exact (N₄ _ (.tail _ (.tail _ (hob _ _ _ hJ₄)))).1
    cases f with
    | ret v => exact h₃
    | brk => exact h₃
    | cont => exact fin h₃
    | next => exact fin h₃
  · have hin : i = n := by omega
    subst hin
    refine W.done _ _ _ hst' fun h₁ tk₁ hk₁ => wpAny_execs_nil ?_
    obtain ⟨F₁, N₁⟩ := next h₁ hk₁
    exact done m nw oK' vc h₁ tk₁ hJ' hoK' F₁ N₁
end
end Mine
end
section
open PySem PySem.W PyProof.Rows PySem.Calls
set_option maxRecDepth 100000
set_option maxHeartbeats 0
namespace Mine
def lawSt : List Stmt := nthS 11 Challenge.rw_ij0195_02.row.prog.main.body
def lawB : List Stmt := defBody lawSt
def scOf : List Stmt → Scope
  | .FunctionDef _ _ _ _ _ _ sc _ _ _ :: _ => sc
  | _ => { kind := .module, names := [], isGenerator := false, isCoroutine := false }
def lawSc : Scope := scOf lawSt
def whBody : List Stmt → List Stmt
  | .While _ b _ _ :: _ => b
  | _ => []
def forBody : List Stmt → List Stmt
  | .For _ _ b _ _ :: _ => b
  | _ => []
def whileB : List Stmt := whBody (nthS 8 lawB)
def forHB : List Stmt := forBody (nthS 1 whileB)
def forDB : List Stmt := forBody (nthS 10 lawB)
abbrev s_queue := Str.ofString "queue"
abbrev s_best := Str.ofString "best"
abbrev s_torn := Str.ofString "torn"
/-- an object that is a list of texts -/
def StrsO (r : List Str) (o : Obj) : Prop := ∃ vs k, o = lstO vs.toArray k ∧ StrsAre vs r
structure LawN (N : Nat) (W : List (List Nat)) (R : List (List Str)) (nx : List Str) : Prop where
  n2 : 2 ≤ N
  n4 : N ≤ 4
  wl : W.length = N
  rl : R.length = N
  nl : nx.length = N
  wp : ∀ p ∈ W, p.Perm (List.range N)
  rp : ∀ r ∈ R, r.Perm nx
  nd : nx.Nodup
  ns : ∀ x ∈ nx, x.length ≤ 10
structure LawT (tl : List (Addr × Obj)) (W : List (List Nat)) (R : List (List Str)) (nx : List Str) (nl wl rl hl : Addr) (nv wv rv hv : List Value) (kn kw kr kh : Nat) : Prop where
  nm : (nl, lstO nv.toArray kn) ∈ tl
  wm : (wl, lstO wv.toArray kw) ∈ tl
  rm : (rl, lstO rv.toArray kr) ∈ tl
  hm : (hl, lstO hv.toArray kh) ∈ tl
  sn : StrsAre nv nx
  sw : Paired (fun p u => ∃ a o, u = .ref a ∧ (a, o) ∈ tl ∧ IntsO p o) W wv
  sr : Paired (fun r u => ∃ a o, u = .ref a ∧ (a, o) ∈ tl ∧ StrsO r o) R rv
  sh : Paired (fun r u => ∃ a ss, u = .ref a ∧ ss.Perm r ∧ HostS tl a (rulesOf r ss)) R hv
def wAt (W : List (List Nat)) (i k : Nat) : Nat := (W.getD i []).getD k 0
def nAt (nx : List Str) (i : Nat) : Str := nx.getD i (Str.ofString "")
def queueI (N : Nat) (W : List (List Nat)) (T : List Nat) (h : Nat) : List Nat := (List.range N).filter fun i => wAt W i (T.getD i 0) == h
def queueX (N : Nat) (W : List (List Nat)) (nx : List Str) (T : List Nat) (h : Nat) : List Str := (queueI N W T h).map (nAt nx)
theorem fr_up {h₀ h h' : Heap} {L : Addr} {m : Str → Option Value} (F : Fr h₀ L h m) (U : Up [L] h h') : Fr h₀ L h' m := by
  obtain ⟨oL, es, ep, hoL, hd, hr⟩ := F.ns
  obtain ⟨sl, hL'⟩ := (U _ _ hoL).2 (List.mem_singleton.mpr rfl)
  refine ⟨⟨_, es, ep, hL', hd, hr⟩, fun b o e => ?_, F.above⟩
  refine (U b o (F.keep b o e)).1 fun hm => ?_
  have := Heap.lt_size e
  rw [List.mem_singleton.mp hm] at this
  exact absurd (Nat.lt_of_lt_of_le this F.above) (Nat.lt_irrefl _)
theorem news_up {h₀ h h' : Heap} {L : Addr} {news : List (Addr × Obj)} (N : News h₀ L h news) (U : Up [L] h h') : News h₀ L h' news := fun q hq =>
  ⟨(U _ _ (N q hq).1).1 fun hm => (N q hq).2.1 (List.mem_singleton.mp hm), (N q hq).2⟩
theorem sub_l {prog : Program} {w : World} {A : Around} {E : Value → Shared → Prop} {s : Shared} {h₀ : Heap} {L l : Addr} {vs : List Value} {k i : Nat} {u : Tok} {v : Value} {news : List (Addr × Obj)} {value slice : Expr} {Q : Value → Shared → Prop}
    (N : News h₀ L s.heap news) (hm : (l, lstO vs.toArray k) ∈ news) (hv : vs[i]? = some v) (hf : i ≤ 1000) (h : Q v s)
    (hs : subscripted slice false (.ref l) (.int (i : Int) u) = operate [.ref l, .int (i : Int) u] (getItem (.ref l) (.int (i : Int) u)) := by with_unfolding_all rfl) (hg : ∀ r, letTemporaryGo value (.ref l) r = pure () := by intro _; with_unfolding_all rfl) :
    wpAny (model prog w) A (subscriptTail value slice (.ref l) (.int (i : Int) u)) Q E s :=
  item_listL ⟨_, (N _ hm).1, rfl, _, rfl⟩ (by omega) (by omega) (by simpa using hv) h hs hg
end Mine
end
section
open PySem PySem.W PyProof.Rows PySem.Calls
set_option maxRecDepth 100000
set_option maxHeartbeats 0
namespace Mine
theorem fold_two_no {q r : List Str} {x : Str} {st : Int × Option Str} (h : x ∉ q) : (twoOf r x).foldl (aStep q) st = st := by
  unfold twoOf
  split <;> simp [aStep, h]
theorem fold_two {q r : List Str} {x : Str} {st : Int × Option Str} (h : x ∈ q) (h0 : reachOf r x ≠ 0) (hne : st.1 ≠ reachOf r x) : (twoOf r x).foldl (aStep q) st = if st.1 < reachOf r x then (reachOf r x, some x) else st := by
  have hne' : ¬ reachOf r x = st.1 := fun e => hne e.symm
  unfold twoOf
  split
  · by_cases hlt : st.1 < reachOf r x
    · by_cases hx : x = Str.ofString ""
      · simp [aStep, h, h0, hlt, ← hx]
      · simp [aStep, h, h0, hlt, hx]
    · simp [aStep, h, h0, hlt, hne']
  · by_cases hlt : st.1 < reachOf r x
    · simp [aStep, h, h0, hlt]
    · simp [aStep, h, h0, hlt, hne']
theorem reach_pos {r : List Str} {x : Str} (h : x ∈ r) : 0 < reachOf r x := by
  have := List.idxOf_lt_length_of_mem h
  unfold reachOf; omega
theorem idx_inj {α : Type} [BEq α] [LawfulBEq α] {r : List α} {x y : α} (hx : x ∈ r) (hy : y ∈ r) (e : r.idxOf x = r.idxOf y) : x = y := by
  have h1 := List.getElem_idxOf (List.idxOf_lt_length_of_mem hx)
  have h2 := List.getElem_idxOf (List.idxOf_lt_length_of_mem hy)
  rw [← h1, ← h2]
  congr 1
/-- what the rules of some of a record's words say -/
def BestIn (q r ss : List Str) (st : Int × Option Str) : Prop :=
  ((∀ x ∈ ss, x ∉ q) ∧ st = (-1, none)) ∨ ∃ b, b ∈ ss ∧ b ∈ q ∧ st = (reachOf r b, some b) ∧ ∀ x ∈ ss, x ∈ q → r.idxOf b ≤ r.idxOf x
theorem best_fold {q r : List Str} : ∀ (ss done : List Str) (st : Int × Option Str), (∀ x ∈ done ++ ss, x ∈ r) → (done ++ ss).Nodup → BestIn q r done st → BestIn q r (done ++ ss) ((rulesOf r ss).foldl (aStep q) st)
  | [], done, st, _, _, h => by simpa [rulesOf] using h
  | x :: ss, done, st, hr, hnd, h => by
    have e : rulesOf r (x :: ss) = twoOf r x ++ rulesOf r ss := by simp [rulesOf]
    rw [e, List.foldl_append]
    have e2 : done ++ x :: ss = (done ++ [x]) ++ ss := by simp
    rw [e2] at hr hnd ⊢
    refine best_fold ss (done ++ [x]) _ hr hnd ?_
    have hxr : x ∈ r := hr x (by simp)
    have hxd : x ∉ done := fun hm => by
      rw [List.append_assoc] at hnd
      have := (List.nodup_append.mp hnd).2.2 x hm x (by simp)
      exact this rfl
    have hp := reach_pos hxr
    by_cases hq : x ∈ q
    · have hne : st.1 ≠ reachOf r x := by
        rcases h with ⟨_, rfl⟩ | ⟨b, hb, _, rfl, _⟩
        · simp only; omega
        · intro e3
          have hbr : b ∈ r := hr b (by simp [hb])
          have : r.idxOf b = r.idxOf x := by simp only [reachOf] at e3; omega
          exact hxd (idx_inj hbr hxr this ▸ hb)
      rw [fold_two hq (by omega) hne]
      rcases h with ⟨hno, rfl⟩ | ⟨b, hb, hbq, rfl, hmin⟩
      · rw [if_pos (by simp only; omega)]
        refine .inr ⟨x, by simp, hq, rfl, fun y hy hyq => ?_⟩
        rcases List.mem_append.mp hy with hy | hy
        · exact absurd hyq (hno y hy)
        · rw [List.mem_singleton.mp hy]; exact Nat.le_refl _
      · by_cases hlt : reachOf r b < reachOf r x
        · rw [if_pos hlt]
          have hlt' : r.idxOf x < r.idxOf b := by simp only [reachOf] at hlt; omega
          refine .inr ⟨x, by simp, hq, rfl, fun y hy hyq => ?_⟩
          rcases List.mem_append.mp hy with hy | hy
          · have := hmin y hy hyq; omega
          · rw [List.mem_singleton.mp hy]; exact Nat.le_refl _
        · rw [if_neg hlt]
          have hle : r.idxOf b ≤ r.idxOf x := by simp only [reachOf] at hlt; omega
          refine .inr ⟨b, by simp [hb], hbq, rfl, fun y hy hyq => ?_⟩
          rcases List.mem_append.mp hy with hy | hy
          · exact hmin y hy hyq
          · rw [List.mem_singleton.mp hy]; exact hle
    · rw [fold_two_no hq]
      rcases h with ⟨hno, rfl⟩ | ⟨b, hb, hbq, rfl, hmin⟩
      · refine .inl ⟨fun y hy => ?_, rfl⟩
        rcases List.mem_append.mp hy with hy | hy
        · exact hno y hy
        · rw [List.mem_singleton.mp hy]; exact hq
      · refine .inr ⟨b, by simp [hb], hbq, rfl, fun y hy hyq => ?_⟩
        rcases List.mem_append.mp hy with hy | hy
        · exact hmin y hy hyq
        · rw [List.mem_singleton.mp hy] at hyq; exact absurd hyq hq
theorem allow_nil {r ss : List Str} : (aFold [] (rulesOf r ss)).2 = none := by
  have go : ∀ (rs : List (Str × Int × Str)) (st : Int × Option Str), rs.foldl (aStep []) st = st := by
    intro rs
    induction rs with
    | nil => intro st; rfl
    | cons r rs ih => intro st; rw [List.foldl_cons, ih]; simp [aStep]
  unfold aFold; rw [go]
theorem allow_best {q r ss : List Str} (hp : ss.Perm r) (hnd : r.Nodup) (hq : q ≠ []) (hqr : ∀ x ∈ q, x ∈ r) : ∃ b, (aFold q (rulesOf r ss)).2 = some b ∧ b ∈ q ∧ ∀ x ∈ q, r.idxOf b ≤ r.idxOf x := by
  have := best_fold (q := q) (r := r) ss [] (-1, none) (fun x hx => hp.mem_iff.mp (by simpa using hx)) (by simpa using hp.nodup_iff.mpr hnd) (.inl ⟨by simp, rfl⟩)
  rw [List.nil_append] at this
  rcases this with ⟨hno, _⟩ | ⟨b, hb, hbq, e, hmin⟩
  · obtain ⟨x, hx⟩ := List.exists_mem_of_ne_nil q hq
    exact absurd hx (hno x (hp.mem_iff.mpr (hqr x hx)))
  · exact ⟨b, by unfold aFold; rw [e], hbq, fun x hx => hmin x (hp.mem_iff.mpr (hqr x hx)) hx⟩
theorem rules_small {r ss : List Str} {n : Nat} (h : ∀ x ∈ ss, x.length ≤ n) : ∀ t ∈ rulesOf r ss, t.2.2.length ≤ n := by
  intro t ht
  obtain ⟨x, hx, ht⟩ := List.mem_flatMap.mp ht
  unfold twoOf at ht
  have h0 : (Str.ofString "").length ≤ n := by rw [show (Str.ofString "").length = 0 from by decide]; omega
  split at ht <;> simp at ht <;> rcases ht with rfl | rfl <;> first | exact h x hx | exact h0
end Mine
end
section
open PySem PySem.W PyProof.Rows PySem.Calls
set_option maxRecDepth 100000
set_option maxHeartbeats 0
namespace Mine
local macro_rules | `(tactic| k_room) => `(tactic| ktr_room)
local macro_rules | `(tactic| k_all) => `(tactic| assumption)
def HostsIs (m₀ : Str → Option Value) (hl : Addr) : Prop := m₀ (Str.ofString "hosts") = some (.ref hl)
theorem nameC {M : Model} {A : Around} {E : Value → Shared → Prop} {s : Shared} {env : Env} {h₀ : Heap} {L : Addr} {m : Str → Option Value} {x : Str} {v : Value} {pos : Pos} {Q : Value → Shared → Prop}
    (F : Fr h₀ L s.heap m) (hv : m x = some v) (hL : env.locals = L) (h : Q v s) (hk : env.scope.kind = .function) (hx : env.kindOf x = some .local) (hb : (x == ("__debug__" : Str)) = false) :
    wpAny M A (eval (.Name x pos) env) Q E s := wpAny_Name (wpAny_loadName_local hk hx (hL ▸ F.ns) hv h) hb
local macro_rules | `(tactic| walk_at "eval Name") => `(tactic| (k_here; (with_reducible show wpAny _ _ (eval (Expr.Name (PySem.Str.ofString "hosts") _) _) _ _ _); (with_reducible rename HostsIs _ _ => hx'); k_dflt (refine' nameC ?k1 ?k2 ?k0 ?_ ?k3 ?k4 ?k5; (case k1 => k_asm); (case k2 => with_unfolding_all exact hx'); (case k0 => rfl); (case k3 => rfl); (case k4 => rfl); (case k5 => decide); k_whole)))
local macro_rules | `(tactic| walk_at "exec Assign cons ListComp") => `(tactic| (k_here; refine hold_ ?_))
local macro_rules | `(tactic| walk_at "eval ListComp") => `(tactic| (k_here; refine hold_ ?_))
local macro_rules | `(tactic| walk_at "subscriptTail") => `(tactic| (k_here; (with_reducible show wpAny _ _ (subscriptTail _ _ (Value.ref _) (Value.int _ _)) _ _ _); refine sub_l (by assumption) (by repeat (first | exact .head _ | assumption | refine .tail _ ?_)) (by assumption) (by omega) ?_))
def qV (W : List (List Nat)) (T : List Nat) (h : Nat) : Value → Bool := fun v => match v with
  | .int z _ => wAt W z.toNat (T.getD z.toNat 0) == h
  | _ => false
inductive qF (nv : List Value) (v y : Value) : Prop
  | mk (i : Nat) (t : Tok) (q1 : v = .int (i : Int) t) (q2 : nv[i]? = some y) : qF nv v y
theorem ints_at {vs : List Value} {ns : List Nat} {i : Nat} (h : IntsN vs ns) (hi : i < ns.length) : ∃ t, vs[i]? = some (.int ((ns.getD i 0 : Nat) : Int) t) := by
  have hl := h.1
  obtain ⟨n, t, e1, e2⟩ := h.2 i vs[i] (List.getElem?_eq_getElem (by omega))
  refine ⟨t, ?_⟩
  rw [List.getElem?_eq_getElem (by omega), e2, List.getD_eq_getElem?_getD, e1]; rfl
theorem pair_at {α β : Type} {F : α → β → Prop} {a : List α} {b : List β} (h : Paired F a b) {i : Nat} (hi : i < a.length) : ∃ u, b[i]? = some u ∧ F a[i] u := by
  induction h generalizing i with
  | nil => exact absurd hi (by simp)
  | cons e _ ih =>
    cases i with
    | zero => exact ⟨_, rfl, e⟩
    | succ i => simpa using ih (by simpa using hi)
theorem law_w {N : Nat} {W : List (List Nat)} {R : List (List Str)} {nx : List Str} (LN : LawN N W R nx) {i : Nat} (hi : i < N) : ∃ hw : i < W.length, (W[i]).Perm (List.range N) := ⟨by rw [LN.wl]; exact hi, LN.wp _ (List.getElem_mem _)⟩
theorem wAt_eq {W : List (List Nat)} {i k : Nat} (hw : i < W.length) : wAt W i k = (W[i]).getD k 0 := by
  unfold wAt
  rw [List.getD_eq_getElem?_getD (l := W), List.getElem?_eq_getElem hw, Option.getD_some]
theorem int_beq (a b : Nat) : ((a : Int) == (b : Int)) = (a == b) := Bool.eq_iff_iff.mpr (by simp only [beq_iff_eq]; omega)
theorem rng_pair {N : Nat} {vs : List Value} (hl : vs.length = N) (h : ∀ (j : Nat) (v : Value), vs[j]? = some v → j < N ∧ ∃ t, v = .int (0 + (j : Int) * 1) t) : Paired (fun (i : Nat) v => ∃ t, v = .int (i : Int) t) (List.range N) vs := by
  have go : ∀ (vs : List Value) (a : Nat), (∀ (j : Nat) (v : Value), vs[j]? = some v → ∃ t, v = .int ((a + j : Nat) : Int) t) → Paired (fun (i : Nat) v => ∃ t, v = .int (i : Int) t) (List.range' a vs.length) vs := by
    intro vs
    induction vs with
    | nil => intro a _; exact .nil
    | cons v vs ih =>
      intro a h
      refine .cons (h 0 v rfl) (ih (a + 1) fun j u hu => ?_)
      obtain ⟨t, e⟩ := h (j + 1) u (by simpa using hu)
      exact ⟨t, by rw [e]; congr 1; omega⟩
  rw [List.range_eq_range', ← hl]
  refine go vs 0 fun j v hv => ?_
  obtain ⟨_, t, e⟩ := h j v hv
  exact ⟨t, by rw [e]; congr 1; omega⟩
theorem pair_filter {α β : Type} {F : α → β → Prop} {p : α → Bool} {q : β → Bool} (hpq : ∀ a b, F a b → p a = q b) {xs : List α} {ys : List β} (h : Paired F xs ys) : Paired F (xs.filter p) (ys.filter q) := by
  induction h with
  | nil => exact .nil
  | cons e _ ih =>
    rw [List.filter_cons, List.filter_cons, hpq _ _ e]
    split
    · exact .cons e ih
    · exact ih
theorem queue_strs {N h : Nat} {W : List (List Nat)} {T : List Nat} {nx : List Str} {nv vs ys : List Value} (hl : vs.length = N) (hv : ∀ (j : Nat) (v : Value), vs[j]? = some v → j < N ∧ ∃ t, v = .int (0 + (j : Int) * 1) t) (hn : StrsAre nv nx)
    (hP : Paired (qF nv) (vs.filter (qV W T h)) ys) : StrsAre ys (queueX N W nx T h) := by
  have h1 := pair_filter (p := fun i => wAt W i (T.getD i 0) == h) (q := qV W T h) (fun i v e => by obtain ⟨t, rfl⟩ := e; simp [qV]) (rng_pair hl hv)
  unfold queueX queueI
  revert hP
  revert h1
  generalize (List.range N).filter (fun i => wAt W i (T.getD i 0) == h) = is
  generalize vs.filter (qV W T h) = us
  intro h1
  induction h1 generalizing ys with
  | nil => intro hP; cases hP; exact .nil
  | cons e _ ih =>
    intro hP
    cases hP with
    | cons e2 h2 =>
      obtain ⟨t, rfl⟩ := e
      obtain ⟨i2, t2, e3, hi⟩ := e2
      obtain ⟨x, tx, hx, rfl⟩ := strs_get hn hi
      have : i2 = _ := Int.ofNat.inj (Value.int.inj e3).1.symm
      subst this
      rw [List.map_cons]
      have e4 : nAt nx i2 = x := by unfold nAt; rw [List.getD_eq_getElem?_getD, hx]; rfl
      rw [e4]
      exact .cons _ _ (ih h2)
local macro_rules | `(tactic| walk_at "getMethod ref") => `(tactic| (k_here; (with_reducible show wpAny _ _ (getMethod (Value.ref _) (PySem.Str.ofString "allowance") _) _ _ _); (fail_if_success (with_reducible rename PySem.W.InstAt _ _ _ _ _ => I')); refine hold_ ?_))
local macro_rules | `(tactic| k_inst) => `(tactic| assumption)
local macro_rules | `(tactic| k_get) => `(tactic| assumption)
theorem map3_qb {m : Str → Option Value} {u v w a b : Option Value} : (fun y => if y = Str.ofString "best" then b else if y = Str.ofString "queue" then a else map3 s_queue s_best s_torn m u v w y) = map3 s_queue s_best s_torn m a b w := by
  funext y
  unfold map3
  by_cases h1 : y = Str.ofString "best"
  · have h2 : ¬ Str.ofString "best" = s_queue := by decide
    subst h1
    rw [if_pos rfl, if_neg h2, if_pos rfl]
  · rw [if_neg h1]
    by_cases h2 : y = s_queue
    · rw [if_pos h2, if_pos h2]
    · rw [if_neg h2, if_neg h2, if_neg h2, if_neg h1, if_neg h1]
theorem keep_ne {ys : List Value} {xs : List Str} {b : Str} (h : StrsAre ys xs) : StrsAre (ys.filter (keepP [b])) (xs.filter (· ≠ b)) := by
  induction h with
  | nil => exact .nil
  | @cons x t vs xs _ ih =>
    by_cases e : x = b
    · subst e
      rw [List.filter_cons_of_neg (by simp [keepP]), List.filter_cons_of_neg (by simp)]
      exact ih
    · rw [List.filter_cons_of_pos (by simp [keepP]; exact fun h => e h.symm), List.filter_cons_of_pos (by simpa using e)]
      exact .cons _ _ ih
local macro_rules | `(tactic| walk_at "truthy ref") => `(tactic| (k_here; refine hold_ ?_))
local macro_rules | `(tactic| walk_at "call builtin:list.extend") => `(tactic| (k_here; refine hold_ ?_))
theorem fresh_all {h₀ h : Heap} {L D : Addr} {news : List (Addr × Obj)} (N : News h₀ L h news) (hn : h.get? D = none) : ∀ p ∈ news, @Ne Nat p.1 D := fun p hp e => by
  have := (N p hp).1
  rw [e, hn] at this; cases this
theorem queue_mem {N h : Nat} {W : List (List Nat)} {R : List (List Str)} {T : List Nat} {nx : List Str} (LN : LawN N W R nx) {x : Str} (hx : x ∈ queueX N W nx T h) : x ∈ nx := by
  unfold queueX queueI at hx
  obtain ⟨i, hi, rfl⟩ := List.mem_map.mp hx
  have hi2 : i < N := by simpa using (List.mem_filter.mp hi).1
  unfold nAt
  rw [List.getD_eq_getElem?_getD, List.getElem?_eq_getElem (by rw [LN.nl]; exact hi2)]
  exact List.getElem_mem _
local macro_rules | `(tactic| walk_at "call ref") => `(tactic| (k_here; refine hold_ ?_))
theorem hbody_c {w : World} {fA : Addr} {cD : Value} {loose : List Str} {mean : ExcName → Option Value} {mg mb : Str → Option Value} {h₀ base : Heap} {L : Addr} {cs : Scope} {body : List Stmt} {s : Shared} {m₀ : Str → Option Value} {u1 u2 u3 : Option Value}
  {tl : List (Addr × Obj)} {N : Nat} {W : List (List Nat)} {R : List (List Str)} {nx gx : List Str} {nl wl rl hl gl ul IT : Addr} {nv wv rv hv gv uv : List Value} {kn kw kr kh kg ku h : Nat} {T : List Nat} {oI o1 o2 o3 o4 o5 o6 o7 o8 o9 : Obj} {t1 t7 : Tok}
  {E : Value → Shared → Prop} {Q : Flow → Shared → Prop}
  (hsc : lawSc = cs) (hbd : forHB = body) (K0 : Below callerA base [] h₀) (X : (hd.heap_39 w.params).In h₀) (T0 : Top topProg loose mean mg mb h₀)
  (F : Fr h₀ L s.heap (map3 s_queue s_best s_torn m₀ u1 u2 u3)) (hho : HostsIs m₀ hl)
  (Nw : News h₀ L s.heap ((IT, oI) :: (L + 7, o7) :: (L + 9, o9) :: (L + 8, o8) :: (L + 6, o6) :: (L + 5, o5) :: (L + 4, o4) :: (L + 3, o3) :: (L + 2, o2) :: (L + 1, o1) :: (gl, lstO gv.toArray kg) :: (ul, lstO uv.toArray ku) :: tl))
  (d7 : o7.data = .cell (some (.int (h : Int) t7))) (d6 : o6.data = .cell (some (.ref gl))) (d5 : o5.data = .cell (some (.ref ul))) (d4 : o4.data = .cell (some (.ref rl))) (d3 : o3.data = .cell (some (.ref wl))) (d2 : o2.data = .cell (some (.ref nl))) (d1 : o1.data = .cell (some (.int (N : Int) t1)))
  (LN : LawN N W R nx) (LF : LawT tl W R nx nl wl rl hl nv wv rv hv kn kw kr kh) (hu : IntsN uv T) (hTl : T.length = N) (hTN : ∀ x ∈ T, x < N) (hh : h < N) (hg : StrsAre gv gx) (hgz : gv.length ≤ 100)
  (g1 : @LT.lt Nat _ (L + 9) gl) (g2 : @Ne Nat IT gl) (g3 : @Ne Nat ul gl) (g4 : ∀ p ∈ tl, @Ne Nat p.1 gl)
  (hret : ∀ (h' : Heap) (tk' kg' : Nat) (gv' : List Value) (u1' u2' : Option Value) (b : Str), (queueX N W nx T h ≠ [] → b ∈ queueX N W nx T h ∧ ∀ x ∈ queueX N W nx T h, (R.getD h []).idxOf b ≤ (R.getD h []).idxOf x) → StrsAre gv' (gx ++ (queueX N W nx T h).filter (· ≠ b)) → Fr h₀ L h' (map3 s_queue s_best s_torn m₀ u1' u2' u3) →
    News h₀ L h' ((IT, oI) :: (L + 7, o7) :: (L + 9, o9) :: (L + 8, o8) :: (L + 6, o6) :: (L + 5, o5) :: (L + 4, o4) :: (L + 3, o3) :: (L + 2, o2) :: (L + 1, o1) :: (gl, lstO gv'.toArray kg') :: (ul, lstO uv.toArray ku) :: tl) → Q .next { s with heap := h', toks := tk' }) :
  wpAny (model Challenge.rw_ij0195_02.row.prog w) (callerA.deeper (envOfC (Str.ofString "law") cs L fA cD)) (execs body (envOfC (Str.ofString "law") cs L fA cD)) Q E s := by
  w_strict (
    (revert X; k_fill; intro X)
    have hs1 : lawSt = .FunctionDef _ _ _ _ _ _ _ _ _ _ :: _ := rfl
    unfold lawSc at hsc
    have hb1 : forHB = [_, _, _, _] := rfl
    rw [hs1] at hsc
    dsimp only [scOf] at hsc
    rw [hb1] at hbd
    subst hsc hbd
    obtain ⟨nm, wm, rm, hm, sn, sw, sr, sh⟩ := LF
    have hN4 := LN.n4
    k_steps
    refine of_hold ?_
    refine comp_use (by with_unfolding_all rfl) (by with_unfolding_all rfl) (by decide) (by rfl) (by decide) (by rfl) (by rfl) (by rfl) ?_
    k_steps
    with_reducible rename Fr _ _ _ _ => F1
    with_reducible rename News _ _ _ _ => N1
    refine ⟨_, _, _, _, _, _, qV W T h, qF nv, src_range (n := N) rfl (by assumption) (small_one (by decide) (by decide) (by omega) (by omega)) rng_size, by rw [sizeLine_eq]; omega, rfl, F1, N1, ⟨?ht, ?he⟩, ?hd⟩
    (case ht =>
      intro i v C oC m₂ s₃ E' hv hC hm F3 N3 hlt
      obtain ⟨hi, t, rfl⟩ := hv
      have e : (0 + (i : Int) * 1) = (i : Int) := by omega
      rw [e] at hm ⊢
      obtain ⟨hw, hwp⟩ := law_w LN hi
      obtain ⟨_, hwi, a, o, rfl, hao, ys, ky, rfl, hys⟩ := pair_at sw hw
      obtain ⟨tu, hui⟩ := ints_at hu (i := i) (by omega)
      have hTi : T.getD i 0 < N := by
        rw [List.getD_eq_getElem?_getD, List.getElem?_eq_getElem (by omega)]
        exact hTN _ (List.getElem_mem _)
      obtain ⟨ty, hyi⟩ := ints_at hys (i := T.getD i 0) (by rw [hwp.length_eq, List.length_range]; exact hTi)
      rw [← wAt_eq hw] at hyi
      refine wpAny_tests_one ?_
      k_steps
      · exact int_beq _ _
      · exact ⟨_, _, rfl, fun b o e => e⟩)
    (case he =>
      intro i v C oC m₂ s₃ E' hv hp hC hm F3 N3 hlt
      obtain ⟨hi, t, rfl⟩ := hv
      have e : (0 + (i : Int) * 1) = (i : Int) := by omega
      rw [e] at hm ⊢
      obtain ⟨u, hnu⟩ : ∃ u, nv[i]? = some u := ⟨nv[i]'(by rw [StrsAre.length sn, LN.nl]; exact hi), List.getElem?_eq_getElem _⟩
      k_steps
      · exact ⟨i, t, rfl, hnu⟩
      · exact ⟨_, _, rfl, fun b o e => e⟩)
    (case hd =>
      intro D h4 tk4 ys hys F5 N5 hD hDn hst
      obtain ⟨vs, hlen, hitems, hP⟩ := hys
      have hqs : StrsAre ys (queueX N W nx T h) := queue_strs hlen hitems sn hP
      obtain ⟨kD, hDo⟩ := hD
      have hDl : ∀ p ∈ (IT, oI) :: (L + 7, o7) :: (L + 9, o9) :: (L + 8, o8) :: (L + 6, o6) :: (L + 5, o5) :: (L + 4, o4) :: (L + 3, o3) :: (L + 2, o2) :: (L + 1, o1) :: (gl, lstO gv.toArray kg) :: (ul, lstO uv.toArray ku) :: tl, @Ne Nat p.1 D := fun p hp q => by
        have := (N1 p hp).1
        rw [q] at this; exact absurd (this.symm.trans hDn) (by simp)
      have N6 := news_add F1 N5 hDo hDn
      clear F1 N1 N5 hP hst hDo hDn
      have hhr : h < R.length := by rw [LN.rl]; exact hh
      obtain ⟨_, hvh, one, ss, rfl, hperm, HS⟩ := pair_at sh hhr
      k_steps
      refine of_hold ?_
      obtain ⟨us, hall, hpr⟩ := HS
      have hAB : AllBut tl h4 := fun p hp _ => (N6 p (by first | exact sub_in 11 hp rfl | exact sub_in 12 hp rfl | exact sub_in 13 hp rfl | exact sub_in 14 hp rfl)).1
      obtain ⟨d, l, es, n, k, a1, a2, a3, a4, a5⟩ := hall h4 hAB
      have I : InstAt h4 one (instObj 52 d) 52 (some (dictOf es n)) := ⟨a1, rfl, rfl, a2⟩
      k_steps
      refine of_hold ?_
      with_reducible rename Fr _ _ _ _ => F6
      have hRN : R.getD h [] = R[h] := by rw [List.getD_eq_getElem?_getD, List.getElem?_eq_getElem hhr]; rfl
      have hRp : (R[h]).Perm nx := LN.rp _ (List.getElem_mem _)
      have hss10 : ∀ x ∈ ss, x.length ≤ 1000 := fun x hx => Nat.le_trans (LN.ns x (hRp.mem_iff.mp (hperm.mem_iff.mp hx))) (by decide)
      have hul : us.length ≤ 1000 := by
        rw [← hpr.length, rules_len, hperm.length_eq, hRp.length_eq, LN.nl]; omega
      have hyl : ys.length ≤ N := by
        rw [StrsAre.length hqs]; unfold queueX queueI
        rw [List.length_map]
        exact Nat.le_trans (List.length_filter_le _ _) (by simp)
      with_unfolding_all refine' allowance_c (rs := rulesOf (R[h]) ss) (xs := queueX N W nx T h) (vs := ys) ?k1 ?k2 ?k3 ?k4 ?k5 ?k6 ?k7 ?j1 a3 ?j2 ?k8 hul (rules_small hss10) ?j3 hqs ?k9 ?_
      (case k1 => exact K0)
      (case k2 => exact F6)
      (case k3 => k_asm)
      (case k4 => k_asm)
      (case k5 => exact rfl)
      (case k6 => ktr_room)
      (case k7 => ktr_units)
      (case j1 => exact I)
      (case j2 => exact a5)
      (case j3 => exact (N6 _ (.head _)).1)
      (case k8 => exact Mine.Paired.imp (fun r u hr => by obtain ⟨aR, e, hr⟩ := hr; exact ⟨aR, e, hr h4 hAB⟩) hpr)
      (case k9 => exact (by omega : ys.length ≤ 1000))
      intro v h7 tk7 hv st7
      have F7 := F6.keeps st7
      have N7 := N6.grown st7
      clear F6 N6 I a1 a2 a3 a4 a5 hAB hall
      have nD : @Ne Nat gl D := hDl (gl, lstO gv.toArray kg) (sub_at 10 rfl)
      by_cases hys : ys = []
      · have hq0 : queueX N W nx T h = [] := List.eq_nil_of_length_eq_zero (by rw [← StrsAre.length hqs, hys]; rfl)
        rw [hq0, allow_nil] at hv
        have hv' : v = .bool true := hv
        subst hv'
        k_steps
        refine of_hold ?_
        with_reducible rename News _ _ _ _ => N7
        refine wpAny_truthy_list (items := ys.toArray) ⟨_, (N7 _ (.head _)).1, rfl, _, rfl⟩ (by rw [List.size_toArray]; omega) ?_
        rw [hys]
        k_steps
        refine of_hold ?_
        with_reducible rename Fr _ _ _ _ => F8
        with_reducible rename News _ _ _ _ => N8
        with_unfolding_all refine' filter_c (xs := queueX N W nx T h) (vs := ys) (ys := [Str.ofString ""]) ?j1 ?j2 ?j3 ?j4 ?j5 ?j6 ?j7 ?j8 hqs ?j9 ?j10 ?j11 ?_
        (case j1 => exact K0)
        (case j2 => exact F8)
        (case j3 => k_asm)
        (case j4 => k_asm)
        (case j5 => exact rfl)
        (case j6 => ktr_room)
        (case j7 => ktr_units)
        (case j8 => exact ⟨_, (N8 _ (.tail _ (.head _))).1, rfl, _, rfl⟩)
        (case j9 => exact ⟨_, (N8 _ (.head _)).1⟩)
        (case j10 => exact fun h => absurd hys h)
        (case j11 => exact (by omega : ys.length ≤ 100000))
        intro D6 c6 h6 tk6 hU hD6 hDn6
        have q6 := fresh_all N8 hDn6
        simp only [List.mem_cons, forall_eq_or_imp] at q6
        have F10 := fr_up F8 hU
        have N10 := news_add F8 (news_up N8 hU) hD6 hDn6
        clear F8 N8 hU hD6 hDn6
        k_steps
        refine of_hold ?_
        have hfl := List.length_filter_le (keepP [(Str.ofString "")]) ys
        with_unfolding_all refine' extend_o (us := gv) (vs := ys.filter (keepP [(Str.ofString "")])) ?e1 ?e2 ?e3 ?e4 ?e5 ?_
        (case e1 => exact F10)
        (case e2 => exact N10)
        (case e3 => exact .head _)
        (case e4 => k_updF)
        (case e5 => omega)
        intro h9 k9 F11 N11
        (try dsimp only at N11)
        clear F10 N10
        k_steps
        with_reducible rename Fr _ _ _ _ => F12
        with_reducible rename News _ _ _ _ => N12
        rw [map3_qb] at F12
        exact hret _ _ _ _ _ _ (Str.ofString "") (fun h => absurd hq0 h) (StrsAre.append' hg (keep_ne hqs)) F12 fun p hp => N12 p (.tail _ (.tail _ (.tail _ hp)))
      · obtain ⟨b, hb, hbq, hbm⟩ := allow_best (q := queueX N W nx T h) hperm (hRp.nodup_iff.mpr LN.nd) (fun e => hys (List.eq_nil_of_length_eq_zero (by rw [StrsAre.length hqs, e]; rfl))) (fun x hx => hRp.mem_iff.mpr (queue_mem LN hx))
        rw [hb] at hv
        obtain ⟨tb, rfl⟩ := hv
        k_steps
        refine of_hold ?_
        with_reducible rename News _ _ _ _ => N7
        refine wpAny_truthy_list (items := ys.toArray) ⟨_, (N7 _ (.head _)).1, rfl, _, rfl⟩ (by rw [List.size_toArray]; omega) ?_
        rw [show (!ys.toArray.isEmpty) = true from by simpa using hys]
        k_steps
        refine of_hold ?_
        with_reducible rename Fr _ _ _ _ => F8
        with_reducible rename News _ _ _ _ => N8
        with_unfolding_all refine' filter_c (xs := queueX N W nx T h) (vs := ys) (ys := [b]) ?j1 ?j2 ?j3 ?j4 ?j5 ?j6 ?j7 ?j8 hqs ?j9 ?j10 ?j11 ?_
        (case j1 => exact K0)
        (case j2 => exact F8)
        (case j3 => k_asm)
        (case j4 => k_asm)
        (case j5 => exact rfl)
        (case j6 => ktr_room)
        (case j7 => ktr_units)
        (case j8 => exact ⟨_, (N8 _ (.tail _ (.head _))).1, rfl, _, rfl⟩)
        (case j9 => exact ⟨_, (N8 _ (.head _)).1⟩)
        (case j10 => exact fun _ => .cons _ _ .nil)
        (case j11 => exact (by omega : ys.length ≤ 100000))
        intro D6 c6 h6 tk6 hU hD6 hDn6
        have q6 := fresh_all N8 hDn6
        simp only [List.mem_cons, forall_eq_or_imp] at q6
        have F10 := fr_up F8 hU
        have N10 := news_add F8 (news_up N8 hU) hD6 hDn6
        clear F8 N8 hU hD6 hDn6
        k_steps
        refine of_hold ?_
        have hfl := List.length_filter_le (keepP [b]) ys
        with_unfolding_all refine' extend_o (us := gv) (vs := ys.filter (keepP [b])) ?e1 ?e2 ?e3 ?e4 ?e5 ?_
        (case e1 => exact F10)
        (case e2 => exact N10)
        (case e3 => exact .head _)
        (case e4 => k_updF)
        (case e5 => omega)
        intro h9 k9 F11 N11
        (try dsimp only at N11)
        clear F10 N10
        k_steps
        with_reducible rename Fr _ _ _ _ => F12
        with_reducible rename News _ _ _ _ => N12
        rw [map3_qb] at F12
        exact hret _ _ _ _ _ _ b (fun _ => ⟨hbq, by rw [hRN]; exact hbm⟩) (StrsAre.append' hg (keep_ne hqs)) F12 fun p hp => N12 p (.tail _ (.tail _ (.tail _ hp)))))
end Mine
end
section
open PySem PySem.W PyProof.Rows PySem.Calls
set_option maxRecDepth 100000
set_option maxHeartbeats 0
namespace Mine
/-- the ledger's end is off the cells -/
def OffC (L : Addr) (tl : List (Addr × Obj)) : Prop := ∀ p ∈ tl, ∀ j : Nat, 1 ≤ j → j ≤ 9 → @Ne Nat p.1 (L + j)
theorem OffC.ne {L : Addr} {tl : List (Addr × Obj)} (h : OffC L tl) {j : Nat} (h1 : 1 ≤ j) (h9 : j ≤ 9) : ∀ p ∈ tl, @Ne Nat p.1 (L + j) := fun p hp => h p hp j h1 h9
theorem nine {P : Nat → Prop} (h1 : P 1) (h2 : P 2) (h3 : P 3) (h4 : P 4) (h5 : P 5) (h6 : P 6) (h7 : P 7) (h8 : P 8) (h9 : P 9) : ∀ j, 1 ≤ j → j ≤ 9 → P j
  | 0, h, _ => absurd h (by decide)
  | 1, _, _ => h1
  | 2, _, _ => h2
  | 3, _, _ => h3
  | 4, _, _ => h4
  | 5, _, _ => h5
  | 6, _, _ => h6
  | 7, _, _ => h7
  | 8, _, _ => h8
  | 9, _, _ => h9
  | n + 10, _, h => absurd h (Nat.not_le_of_lt (Nat.le_add_left 10 n))
theorem OffC.cons {L a : Addr} {o : Obj} {tl : List (Addr × Obj)} (h : OffC L tl) (h1 : @Ne Nat a (L + 1)) (h2 : @Ne Nat a (L + 2)) (h3 : @Ne Nat a (L + 3)) (h4 : @Ne Nat a (L + 4)) (h5 : @Ne Nat a (L + 5)) (h6 : @Ne Nat a (L + 6)) (h7 : @Ne Nat a (L + 7)) (h8 : @Ne Nat a (L + 8)) (h9 : @Ne Nat a (L + 9)) : OffC L ((a, o) :: tl) := fun p hp j hj1 hj9 => by
  rcases List.mem_cons.mp hp with rfl | hp
  · exact nine (P := fun j => @Ne Nat a (L + j)) h1 h2 h3 h4 h5 h6 h7 h8 h9 j hj1 hj9
  · exact h p hp j hj1 hj9
theorem LawT.mono {tl tl' : List (Addr × Obj)} {W : List (List Nat)} {R : List (List Str)} {nx : List Str} {nl wl rl hl : Addr} {nv wv rv hv : List Value} {kn kw kr kh : Nat} (x : LawT tl W R nx nl wl rl hl nv wv rv hv kn kw kr kh) (hs : ∀ p ∈ tl, p ∈ tl') : LawT tl' W R nx nl wl rl hl nv wv rv hv kn kw kr kh :=
  ⟨hs _ x.nm, hs _ x.wm, hs _ x.rm, hs _ x.hm, x.sn, Mine.Paired.imp (fun _ _ ⟨a, o, e, h, r⟩ => ⟨a, o, e, hs _ h, r⟩) x.sw, Mine.Paired.imp (fun _ _ ⟨a, o, e, h, r⟩ => ⟨a, o, e, hs _ h, r⟩) x.sr, Mine.Paired.imp (fun _ _ ⟨a, ss, e, hp, hh⟩ => ⟨a, ss, e, hp, hh.grow fun p hp _ => hs p hp⟩) x.sh⟩
/-- what a round's refusals are -/
def GoneIs (N : Nat) (W : List (List Nat)) (R : List (List Str)) (nx : List Str) (T : List Nat) (i : Nat) (gx : List Str) : Prop :=
  ∃ b : Nat → Str, (∀ h, h < i → queueX N W nx T h ≠ [] → b h ∈ queueX N W nx T h ∧ ∀ x ∈ queueX N W nx T h, (R.getD h []).idxOf (b h) ≤ (R.getD h []).idxOf x) ∧ gx = (List.range i).flatMap fun h => (queueX N W nx T h).filter (· ≠ b h)
def nextT (N : Nat) (nx : List Str) (T : List Nat) (gx : List Str) : List Nat := (List.range N).map fun i => if nAt nx i ∈ gx then T.getD i 0 + 1 else T.getD i 0
theorem GoneIs.zero {N : Nat} {W : List (List Nat)} {R : List (List Str)} {nx : List Str} {T : List Nat} : GoneIs N W R nx T 0 [] := ⟨fun _ => Str.ofString "", fun h hh => absurd hh (Nat.not_lt_zero _), rfl⟩
theorem GoneIs.step {N : Nat} {W : List (List Nat)} {R : List (List Str)} {nx : List Str} {T : List Nat} {i : Nat} {gx : List Str} {b : Str} (x : GoneIs N W R nx T i gx)
    (hb : queueX N W nx T i ≠ [] → b ∈ queueX N W nx T i ∧ ∀ x ∈ queueX N W nx T i, (R.getD i []).idxOf b ≤ (R.getD i []).idxOf x) : GoneIs N W R nx T (i + 1) (gx ++ (queueX N W nx T i).filter (· ≠ b)) := by
  obtain ⟨f, hf, rfl⟩ := x
  refine ⟨fun h => if h = i then b else f h, fun h hh hq => ?_, ?_⟩
  · by_cases e : h = i
    · subst e; simpa using hb hq
    · simpa [e] using hf h (by omega) hq
  · rw [List.range_succ, List.flatMap_append]
    have e1 : (List.range i).flatMap (fun h => (queueX N W nx T h).filter (· ≠ f h)) = (List.range i).flatMap fun h => (queueX N W nx T h).filter (· ≠ (if h = i then b else f h)) := by
      simp only [List.flatMap]
      congr 1
      refine List.map_congr_left fun h hh => ?_
      have : h ≠ i := by have := List.mem_range.mp hh; omega
      simp [this]
    rw [e1]
    simp
theorem GoneIs.len {N : Nat} {W : List (List Nat)} {R : List (List Str)} {nx : List Str} {T : List Nat} {i : Nat} {gx : List Str} (x : GoneIs N W R nx T i gx) (hi : i ≤ 4) (hN : N ≤ 4) : gx.length ≤ 16 := by
  obtain ⟨f, _, rfl⟩ := x
  have := flat_len (f := fun h => (queueX N W nx T h).filter (· ≠ f h)) (N := 4) (xs := List.range i) fun h _ => by
    refine Nat.le_trans (List.length_filter_le _ _) ?_
    unfold queueX queueI
    rw [List.length_map]
    exact Nat.le_trans (List.length_filter_le _ _) (by simpa using hN)
  rw [List.length_range] at this
  omega
theorem ints_are {vs : List Value} {ns : List Nat} (h : IntsN vs ns) : IntsAre vs (ns.map fun (n : Nat) => (n : Int)) := by
  induction ns generalizing vs with
  | nil =>
    have : vs = [] := List.eq_nil_of_length_eq_zero h.1
    subst this; exact .nil
  | cons n ns ih =>
    rcases vs with _ | ⟨v, vs⟩
    · exact absurd h.1 (by simp)
    · obtain ⟨⟨t, rfl⟩, h2⟩ := filt_cons h
      exact .cons _ _ (ih h2)
theorem sub7 {a9 a8 a7 a6 a5 a4 a3 a2 a1 g u : Addr × Obj} {t : List (Addr × Obj)} (hu : u ∈ t) : ∀ p ∈ a7 :: a9 :: a8 :: a6 :: a5 :: a4 :: a3 :: a2 :: a1 :: g :: u :: t, p ∈ g :: a9 :: a8 :: a7 :: a6 :: a5 :: a4 :: a3 :: a2 :: a1 :: t := sub_gen [3, 1, 2, 4, 5, 6, 7, 8, 9, 0] (u :: t) (allc (sub_in 10 hu rfl) fun _ h => sub_in 10 h rfl) rfl
theorem sub9 {d a9 a8 a7 a6 a5 a4 a3 a2 a1 g u : Addr × Obj} {t : List (Addr × Obj)} : ∀ p ∈ a9 :: a8 :: a7 :: a6 :: a5 :: a4 :: a3 :: a2 :: a1 :: d :: g :: t, p ∈ d :: a7 :: a9 :: a8 :: a6 :: a5 :: a4 :: a3 :: a2 :: a1 :: g :: u :: t := sub_of [2, 3, 1, 4, 5, 6, 7, 8, 9, 0, 10] 12 rfl
theorem news_sub {h₀ h : Heap} {L : Addr} {news news' : List (Addr × Obj)} (N : News h₀ L h news) (hs : ∀ p ∈ news', p ∈ news) : News h₀ L h news' := fun p hp => N p (hs p hp)
theorem allLt_at {a : Addr} : ∀ {tl : List (Addr × Obj)}, AllLt a tl → ∀ p ∈ tl, @LT.lt Nat _ p.1 a
  | [], _ => fun _ h => nomatch h
  | q :: r, h => fun p hp => by
    rcases List.mem_cons.mp hp with rfl | hp
    · exact h.1
    · exact allLt_at h.2 p hp
theorem allLt_ne {a : Addr} {tl : List (Addr × Obj)} (h : AllLt a tl) : ∀ p ∈ tl, @Ne Nat p.1 a := fun p hp => Nat.ne_of_lt (allLt_at h p hp)
inductive nextF (nx : List Str) (T : List Nat) (gx : List Str) (v y : Value) : Prop
  | mk (i : Nat) (t t' : Tok) (q1 : v = .int (i : Int) t) (q2 : y = .int ((if nAt nx i ∈ gx then T.getD i 0 + 1 else T.getD i 0 : Nat) : Int) t') : nextF nx T gx v y
theorem names_at {nv : List Value} {nx : List Str} {i : Nat} (h : StrsAre nv nx) (hi : i < nx.length) : ∃ t, nv[i]? = some (.str (nAt nx i) t) := by
  have hl := StrsAre.length h
  obtain ⟨x, t, e1, e2⟩ := strs_get h (List.getElem?_eq_getElem (l := nv) (by omega : i < nv.length))
  refine ⟨t, ?_⟩
  rw [List.getElem?_eq_getElem (by omega), e2]
  unfold nAt
  rw [List.getD_eq_getElem?_getD, e1]; rfl
theorem off_same {l l' : List (Addr × Obj)} {I : Addr} (e : l'.map (·.1) = l.map (·.1)) (h : ∀ p ∈ l, @Ne Nat p.1 I) : ∀ p ∈ l', p.1 ≠ I := fun p hp => by
  have h1 : p.1 ∈ l.map (·.1) := e ▸ List.mem_map_of_mem hp
  obtain ⟨q, hq, e2⟩ := List.mem_map.mp h1
  rw [← e2]; exact h q hq
theorem pair_ints {A : Nat → Value → Prop} {B : Value → Value → Prop} {f : Nat → Nat} (hAB : ∀ i v y, A i v → B v y → ∃ t, y = .int ((f i : Nat) : Int) t) {is : List Nat} {vs : List Value} (h1 : Paired A is vs) : ∀ {ys : List Value}, Paired B vs ys → IntsN ys (is.map f) := by
  induction h1 with
  | nil => intro ys h; cases h; exact ⟨rfl, by simp⟩
  | cons e _ ih =>
    intro ys h
    cases h with
    | cons e2 h2 =>
      obtain ⟨t, rfl⟩ := hAB _ _ _ e e2
      exact ints_cons (ih h2)
theorem next_ints {N : Nat} {nx gx : List Str} {T : List Nat} {vs ys : List Value} (hl : vs.length = N) (hv : ∀ (j : Nat) (v : Value), vs[j]? = some v → j < N ∧ ∃ t, v = .int (0 + (j : Int) * 1) t) (hP : Paired (nextF nx T gx) vs ys) : IntsN ys (nextT N nx T gx) :=
  pair_ints (fun i v y h1 h2 => by
    obtain ⟨t, rfl⟩ := h1
    obtain ⟨i2, t2, t3, e, rfl⟩ := h2
    have : i2 = i := Int.ofNat.inj (Value.int.inj e).1.symm
    subst this
    exact ⟨t3, rfl⟩) (rng_pair hl hv) hP
theorem any_mem {gy : List Str} {x : Str} {b : Bool} (h : (gy.any fun y => y == x) = b) : decide (x ∈ gy) = b := by
  rw [← h, Bool.eq_iff_iff]
  simp
/-- between the hosts of a round -/
inductive JH (N : Nat) (W : List (List Nat)) (R : List (List Str)) (nx : List Str) (T : List Nat) (L : Addr) (m₀ : Str → Option Value) (o9 o8 o6 o5 o4 o3 o2 o1 : Obj) (gl ul : Addr) (uv : List Value) (ku : Nat) (tl : List (Addr × Obj)) (i : Nat) (m : Str → Option Value) (nw : List (Addr × Obj)) : Prop
  | mk (u1 u2 u3 : Option Value) (gx : List Str) (gv : List Value) (kg : Nat) (q1 : m = map3 s_queue s_best s_torn m₀ u1 u2 u3) (q2 : nw = (L + 9, o9) :: (L + 8, o8) :: (L + 6, o6) :: (L + 5, o5) :: (L + 4, o4) :: (L + 3, o3) :: (L + 2, o2) :: (L + 1, o1) :: (gl, lstO gv.toArray kg) :: (ul, lstO uv.toArray ku) :: tl) (q3 : StrsAre gv gx) (q4 : GoneIs N W R nx T i gx) (q5 : i ≤ 4) : JH N W R nx T L m₀ o9 o8 o6 o5 o4 o3 o2 o1 gl ul uv ku tl i m nw
theorem jh_off {N : Nat} {W : List (List Nat)} {R : List (List Str)} {nx : List Str} {T : List Nat} {L : Addr} {m₀ : Str → Option Value} {o9 o8 o6 o5 o4 o3 o2 o1 : Obj} {gl ul : Addr} {uv : List Value} {ku : Nat} {tl : List (Addr × Obj)} (hg : @LT.lt Nat _ (L + 9) gl) (hu : (ul, lstO uv.toArray ku) ∈ tl) (h7 : ∀ p ∈ tl, @Ne Nat p.1 (L + 7)) :
    ∀ i m nw, JH N W R nx T L m₀ o9 o8 o6 o5 o4 o3 o2 o1 gl ul uv ku tl i m nw → ∀ p ∈ nw, @Ne Nat p.1 (L + 7) := by
  rintro i m nw ⟨u1, u2, u3, gx, gv, kg, rfl, rfl, _⟩
  exact allc (ne_off 9 7 rfl) (allc (ne_off 8 7 rfl) (allc (ne_off 6 7 rfl) (allc (ne_off 5 7 rfl) (allc (ne_off 4 7 rfl) (allc (ne_off 3 7 rfl) (allc (ne_off 2 7 rfl) (allc (ne_off 1 7 rfl) (allc (far_ne hg 7 rfl) (allc (h7 _ hu) h7)))))))))
local macro_rules | `(tactic| k_room) => `(tactic| ktr_room)
local macro_rules | `(tactic| k_all) => `(tactic| assumption)
local macro_rules | `(tactic| k_get) => `(tactic| assumption)
local macro_rules | `(tactic| walk_at "exec For") => `(tactic| (k_here; refine hold_ ?_))
local macro_rules | `(tactic| walk_at "eval ListComp") => `(tactic| (k_here; refine hold_ ?_))
local macro_rules | `(tactic| walk_at "truthy ref") => `(tactic| (k_here; refine hold_ ?_))
local macro_rules | `(tactic| walk_at "call builtin:max") => `(tactic| (k_here; refine hold_ ?_))
local macro_rules | `(tactic| walk_at "subscriptTail") => `(tactic| (k_here; (with_reducible show wpAny _ _ (subscriptTail _ _ (Value.ref _) (Value.int _ _)) _ _ _); refine sub_l (by assumption) (by repeat (first | exact .head _ | assumption | refine .tail _ ?_)) (by assumption) (by omega) ?_))
/-- between the rounds -/
inductive JWh (N : Nat) (W : List (List Nat)) (R : List (List Str)) (nx : List Str) (PI : List Nat → List Str → Nat → Prop) (h₀ : Heap) (L : Addr) (m₀ : Str → Option Value) (tl : List (Addr × Obj)) (o9 o8 o4 o3 o2 o1 : Obj) (s : Shared) (n : Nat) (s' : Shared) : Prop
  | mk (h : Heap) (tk : Nat) (u1 u2 u3 v7 : Option Value) (o7 o6 o5 : Obj) (T : List Nat) (gx : List Str) (gv uv : List Value) (gl ul : Addr) (kg ku : Nat) (tlX : List (Addr × Obj)) (q1 : s' = { s with heap := h, toks := tk }) (q2 : Fr h₀ L h (map3 s_queue s_best s_torn m₀ u1 u2 u3)) (q3 : News h₀ L h ((L + 9, o9) :: (L + 8, o8) :: (L + 7, o7) :: (L + 6, o6) :: (L + 5, o5) :: (L + 4, o4) :: (L + 3, o3) :: (L + 2, o2) :: (L + 1, o1) :: tlX)) (q4 : (∀ p ∈ tl, p ∈ tlX)) (q5 : OffC L tlX) (q6 : o7.data = .cell v7) (q7 : o6.data = .cell (some (.ref gl))) (q8 : o5.data = .cell (some (.ref ul))) (q9 : (gl, lstO gv.toArray kg) ∈ tlX) (q10 : (ul, lstO uv.toArray ku) ∈ tlX) (q11 : StrsAre gv gx) (q12 : gv.length ≤ 100) (q13 : IntsN uv T) (q14 : T.length = N) (q15 : PI T gx n) : JWh N W R nx PI h₀ L m₀ tl o9 o8 o4 o3 o2 o1 s n s'
theorem while_c {w : World} {fA : Addr} {cD : Value} {loose : List Str} {mean : ExcName → Option Value} {mg mb : Str → Option Value} {h₀ base : Heap} {L : Addr} {cs : Scope} {s : Shared} {m₀ : Str → Option Value}
  {wt : Expr} {wb rest : List Stmt} {wp : Pos} {PI : List Nat → List Str → Nat → Prop}
  {tl : List (Addr × Obj)} {N : Nat} {W : List (List Nat)} {R : List (List Str)} {nx : List Str} {nl wl rl hl : Addr} {nv wv rv hv : List Value} {kn kw kr kh : Nat} {o1 o2 o3 o4 o8 o9 : Obj} {t1 : Tok}
  {E : Value → Shared → Prop} {Q : Flow → Shared → Prop} {n₀ : Nat}
  (hsc : lawSc = cs) (hwh : nthS 8 lawB = .While wt wb [] wp :: rest) (K0 : Below callerA base [] h₀) (X : (hd.heap_39 w.params).In h₀) (T0 : Top topProg loose mean mg mb h₀)
  (hho : HostsIs m₀ hl)
  (d4 : o4.data = .cell (some (.ref rl))) (d3 : o3.data = .cell (some (.ref wl))) (d2 : o2.data = .cell (some (.ref nl))) (d1 : o1.data = .cell (some (.int (N : Int) t1)))
  (LN : LawN N W R nx) (LF : LawT tl W R nx nl wl rl hl nv wv rv hv kn kw kr kh)
  (hPI : ∀ T gx n gx', PI T gx n → gx ≠ [] → T.length = N → (∀ x ∈ T, x < N) → GoneIs N W R nx T N gx' → ∃ m, m < n ∧ PI (nextT N nx T gx') gx' m)
  (h0 : JWh N W R nx PI h₀ L m₀ tl o9 o8 o4 o3 o2 o1 s n₀ s)
  (hret : ∀ (h : Heap) (tk : Nat) (u1 u2 u3 v7 : Option Value) (o7 o6 o5 : Obj) (T : List Nat) (gx : List Str) (uv : List Value) (ul : Addr) (ku n : Nat) (tlX : List (Addr × Obj)), Fr h₀ L h (map3 s_queue s_best s_torn m₀ u1 u2 u3) →
    News h₀ L h ((L + 9, o9) :: (L + 8, o8) :: (L + 7, o7) :: (L + 6, o6) :: (L + 5, o5) :: (L + 4, o4) :: (L + 3, o3) :: (L + 2, o2) :: (L + 1, o1) :: tlX) → (∀ p ∈ tl, p ∈ tlX) → OffC L tlX →
    o7.data = .cell v7 → o5.data = .cell (some (.ref ul)) → (ul, lstO uv.toArray ku) ∈ tlX → IntsN uv T → T.length = N → PI T gx n → (gx = [] ∨ ∃ x ∈ T, ¬ x < N) → Q .next { s with heap := h, toks := tk })
  (hE : PassesOwn (model Challenge.rw_ij0195_02.row.prog w) (callerA.deeper (envOfC (Str.ofString "law") cs L fA cD)) (envOfC (Str.ofString "law") cs L fA cD) E) :
  wpAny (model Challenge.rw_ij0195_02.row.prog w) (callerA.deeper (envOfC (Str.ofString "law") cs L fA cD)) (exec (.While wt wb [] wp) (envOfC (Str.ofString "law") cs L fA cD)) Q E s := by
  w_strict (
    (revert X; k_fill; intro X)
    have hs1 : lawSt = .FunctionDef _ _ _ _ _ _ _ _ _ _ :: _ := rfl
    unfold lawSc at hsc
    rw [hs1] at hsc
    dsimp only [scOf] at hsc
    subst hsc
    have hw1 : nthS 8 lawB = .While _ _ _ _ :: _ := rfl
    rw [hw1] at hwh
    injection hwh with e1 e2
    injection e1 with e3 e4 e5 e6
    subst e3 e4 e6
    clear e5 e2 hw1 hs1
    refine while_gen (JWh N W R nx PI h₀ L m₀ tl o9 o8 o4 o3 o2 o1 s) ?_ n₀ h0 hE
    clear h0
    rintro n s' ⟨h, tk, u1, u2, u3, v7, o7, o6, o5, T, gx, gv, uv, gl, ul, kg, ku, tlX, rfl, F1, N1, hsub, hoff, d7, d6, d5, hgm, hum, hg, hgz, hu, hTl, hpi⟩
    have LX := LF.mono hsub
    have hN2 := LN.n2
    have hN4 := LN.n4
    have hgl := StrsAre.length hg
    have c5 := hoff.ne (j := 5) (by decide) (by decide)
    have c6 := hoff.ne (j := 6) (by decide) (by decide)
    have c7 := hoff.ne (j := 7) (by decide) (by decide)
    k_steps
    refine of_hold ?_
    refine wpAny_truthy_list (items := gv.toArray) ⟨_, (N1 (gl, lstO gv.toArray kg) (by first | exact sub_in 9 hgm rfl | exact sub_in 10 hgm rfl | exact sub_in 11 hgm rfl | exact sub_in 12 hgm rfl | exact sub_in 13 hgm rfl)).1, rfl, _, rfl⟩ (by rw [List.size_toArray]; omega) ?_
    by_cases hgv : gv = []
    · rw [hgv]
      k_steps
      with_reducible rename Fr _ _ _ _ => F2
      with_reducible rename News _ _ _ _ => N2
      exact hret _ _ _ _ _ _ _ _ _ _ _ _ _ _ _ _ F2 N2 hsub hoff d7 d5 hum hu hTl hpi (.inl (List.eq_nil_of_length_eq_zero (by rw [← hgl, hgv]; rfl)))
    · rw [show (!gv.toArray.isEmpty) = true from by simpa using hgv]
      k_steps
      refine of_hold ?_
      with_reducible rename Fr _ _ _ _ => F2
      with_reducible rename News _ _ _ _ => N2
      refine kso_max F2 N2 ⟨_, (N2 (ul, lstO uv.toArray ku) (by first | exact sub_in 9 hum rfl | exact sub_in 10 hum rfl | exact sub_in 11 hum rfl | exact sub_in 12 hum rfl | exact sub_in 13 hum rfl)).1, rfl, _, rfl⟩ (ints_are hu) (by rw [List.length_map]; omega) rfl fun h3 M t3 tk3 F3 N3 hM hMx => ?_
      clear F2 N2
      k_steps
      case' refine_2 =>
        with_reducible rename Fr _ _ _ _ => F2
        with_reducible rename News _ _ _ _ => N2
        obtain ⟨x, hx, rfl⟩ := List.mem_map.mp hM
        exact hret _ _ _ _ _ _ _ _ _ _ _ _ _ _ _ _ F2 N2 hsub hoff d7 d5 hum hu hTl hpi (.inr ⟨x, hx, by omega⟩)
      refine of_hold ?_
      with_reducible rename Fr _ _ _ _ => F4
      with_reducible rename News _ _ _ _ => N4
      with_reducible rename (_ ∧ _) => l4
      rename_i ga hb ha oG dG
      have l9 : @LT.lt Nat _ (L + 9) ga := l4.1
      have lX : AllLt ga tlX := l4.2.2.2.2.2.2.2.2.2
      refine for_cellJ (K := L + 7) rfl rfl rfl ?_
      k_steps
      with_reducible rename Fr _ _ _ _ => F5
      with_reducible rename News _ _ _ _ => N5
      have hTN : ∀ x ∈ T, x < N := fun x hx => by
        have := hMx x (List.mem_map.mpr ⟨x, hx, rfl⟩)
        omega
      have tX := allLt_ne lX
      refine ⟨h₀, N, _, o7, _, _, v7, JH N W R nx T L m₀ o9 o8 oG o5 o4 o3 o2 o1 ga ul uv ku tlX, srcp_range (n := N) rfl (by assumption) (small_one (by decide) (by decide) (by omega) (by omega)) rng_size, F5, news_sub N5 (sub7 hum), d7, ⟨u1, u2, u3, [], [], 0, rfl, rfl, .nil, .zero, by decide⟩, jh_off l9 hum c7, ?turn, ?done⟩
      (case turn =>
        clear F5 N5
        intro iT vT IT oI oT mT nw hT tkT hiT hvT HJ hoT FT NT hIT
        obtain ⟨hi, t, rfl⟩ := hvT
        have e : (0 + (iT : Int) * 1) = (iT : Int) := by omega
        rw [e] at hoT
        obtain ⟨w1, w2, w3, gy, gw, kw2, rfl, rfl, hgw, hgi, h4⟩ := HJ
        have hgwl := StrsAre.length hgw
        have hgyl := hgi.len h4 hN4
        with_unfolding_all refine' hbody_c (h := iT) (gx := gy) (gv := gw) (tl := tlX) ?k1 ?k2 ?k3 ?k4 ?k5 ?k6 ?k7 ?k8 ?k9 ?k10 ?k11 ?k12 ?k13 ?k14 ?k15 ?k16 ?k17 ?k18 ?k19 ?k20 ?k21 ?k22 ?k23 ?k24 ?k25 ?k26 ?k27 ?_
        (case k1 => rfl)
        (case k2 => rfl)
        (case k3 => exact K0)
        (case k4 => k_asm)
        (case k5 => exact T0)
        (case k6 => exact FT)
        (case k7 => exact hho)
        (case k8 => exact NT)
        (case k9 => exact hoT)
        (case k10 => exact dG)
        (case k11 => exact d5)
        (case k12 => exact d4)
        (case k13 => exact d3)
        (case k14 => exact d2)
        (case k15 => exact d1)
        (case k16 => exact LN)
        (case k17 => exact LX)
        (case k18 => exact hu)
        (case k19 => exact hTl)
        (case k20 => exact hTN)
        (case k21 => exact hi)
        (case k22 => exact hgw)
        (case k23 => omega)
        (case k24 => exact l9)
        (case k25 => exact Ne.symm (hIT (ga, lstO gw.toArray kw2) (by first | exact sub_at 0 rfl | exact sub_at 1 rfl | exact sub_at 2 rfl | exact sub_at 3 rfl | exact sub_at 4 rfl | exact sub_at 5 rfl | exact sub_at 6 rfl | exact sub_at 7 rfl | exact sub_at 8 rfl | exact sub_at 9 rfl | exact sub_at 10 rfl | exact sub_at 11 rfl)))
        (case k26 => exact tX _ hum)
        (case k27 => exact tX)
        intro h8 tk8 kg8 gv8 u8 v8 b hb hg8 F8 N8
        refine ⟨h8, tk8, _, _, rfl, F8, N8, fun p hp => ?_, ⟨_, rfl, u8, v8, w3, _, gv8, kg8, rfl, rfl, hg8, hgi.step hb, by omega⟩⟩
        exact off_same (by simp only [List.map_cons]) hIT p hp)
      (case done =>
        clear F5 N5
        intro mT nw oT vT hT tkT HJ hoT FT NT
        obtain ⟨w1, w2, w3, gy, gw, kw2, rfl, rfl, hgw, hgi, h4⟩ := HJ
        have hgwl := StrsAre.length hgw
        have hgyl := hgi.len hN4 hN4
        dsimp only
        k_steps
        refine of_hold ?_
        refine comp_at (by with_unfolding_all rfl) (by decide) (by rfl) (by decide) (by rfl) ?_
        k_steps
        with_reducible rename Fr _ _ _ _ => F7
        with_reducible rename News _ _ _ _ => N7
        obtain ⟨nm, wm, rm, hm', sn, sw, sr, sh⟩ := LX
        refine ⟨_, _, _, _, _, _, fun _ => true, nextF nx T gy, src_range (n := N) rfl (by assumption) (small_one (by decide) (by decide) (by omega) (by omega)) rng_size, by rw [sizeLine_eq]; omega, F7, N7, ?ht, ?he, ?hd⟩
        (case ht => exact fun i v C oC m₂ s₃ E' hv hC hm F3 N3 hlt => wpAny_tests_nil ⟨rfl, _, _, rfl, fun b o e => e⟩)
        (case he =>
          intro i v C oC m₂ s₃ E' hv hp hC hm F3 N3 hlt
          obtain ⟨hi, t, rfl⟩ := hv
          have e : (0 + (i : Int) * 1) = (i : Int) := by omega
          rw [e] at hm ⊢
          obtain ⟨tu, hui⟩ := ints_at hu (i := i) (by omega)
          obtain ⟨tx, hnx⟩ := names_at sn (i := i) (by rw [LN.nl]; exact hi)
          k_steps
          · have hm2 := of_decide_eq_true (any_mem (by assumption))
            exact ⟨i, t, _, rfl, by rw [if_pos hm2]; rfl⟩
          · exact ⟨_, _, rfl, fun b o e => e⟩
          · have hm2 := of_decide_eq_false (any_mem (by assumption))
            exact ⟨i, t, _, rfl, by rw [if_neg hm2]⟩
          · exact ⟨_, _, rfl, fun b o e => e⟩)
        (case hd =>
          intro D h8 tk8 vs ys hlen hitems F8 N8 hD hDn hst hP
          rw [List.filter_eq_self.mpr (fun _ _ => rfl)] at hP
          have hys := next_ints hlen hitems hP
          obtain ⟨kD, hDo⟩ := hD
          have q9 := fresh_all N7 hDn
          simp only [List.mem_cons, forall_eq_or_imp] at q9
          have N9 := news_add F7 N8 hDo hDn
          clear F7 N7 N8 hDo hDn hP hst
          have cu : @Ne Nat ul (L + 5) := c5 _ hum
          k_steps
          with_reducible rename Fr _ _ _ _ => F10
          with_reducible rename News _ _ _ _ => N10
          with_reducible rename _ = Data.cell (some (Value.ref D)) => dD
          obtain ⟨n2, hlt2, hpi2⟩ := hPI T gx n gy hpi (fun e => hgv (List.eq_nil_of_length_eq_zero (by rw [hgl, e]; rfl))) hTl hTN hgi
          refine ⟨n2, hlt2, _, _, w1, w2, w3, vT, oT, oG, _, nextT N nx T gy, gy, gw, ys, ga, D, kw2, kD, (D, lstO ys.toArray kD) :: (ga, lstO gw.toArray kw2) :: tlX, rfl, F10, ?m1, ?m2, ?m3, hoT, dG, dD, .tail _ (.head _), .head _, hgw, by omega, hys, by simp [nextT], hpi2⟩
          (case m1 => exact news_sub N10 sub9)
          (case m2 => exact fun p hp => .tail _ (.tail _ (hsub p hp)))
          (case m3 =>
            obtain ⟨q7, q9, q8, q6, q5, q4, q3, q2, q1, _⟩ := q9
            exact OffC.cons (OffC.cons hoff (by omega) (by omega) (by omega) (by omega) (by omega) (by omega) (by omega) (by omega) (by omega)) (Ne.symm q1) (Ne.symm q2) (Ne.symm q3) (Ne.symm q4) (Ne.symm q5) (Ne.symm q6) (Ne.symm q7) (Ne.symm q8) (Ne.symm q9)))))
end Mine
end
section
open PySem PySem.W PyProof.Rows PySem.Calls
set_option maxRecDepth 100000
set_option maxHeartbeats 0
namespace Mine
theorem slice_raw {prog : Program} {w : World} {A : Around} {E : Value → Shared → Prop} {s : Shared} {value slice : Expr} {l : Addr} {vs : List Value} {n : Nat} {u : Tok} {Q : Value → Shared → Prop}
    (hl : s.heap.IsList l vs.toArray) (hn : n ≤ vs.length) (hz : vs.length ≤ 100000)
    (h : Q (.ref (s.heap.objs.size + 1)) { s with heap := (s.heap.push { cls := .type "slice", data := .fields #[.none, .int (n : Int) u, .none] }).push { cls := .type "list", data := .seq (vs.take n).toArray } })
    (hs : subscripted slice false (.ref l) (.ref s.heap.objs.size) = operate [.ref s.heap.objs.size, .ref l] (getItem (.ref l) (.ref s.heap.objs.size)) := by with_unfolding_all rfl)
    (ht : ∀ r, letTemporaryGo value (.ref l) r = pure () := by intro _; with_unfolding_all rfl) :
    wpAny (model prog w) A (subscriptTail value slice (.ref l) (.ref s.heap.objs.size)) Q E { s with heap := s.heap.push { cls := .type "slice", data := .fields #[.none, .int (n : Int) u, .none] } } := by
  have e : slicePick vs.toArray none (some (n : Int)) none = (vs.take n).toArray := by
    rw [kms_pick_eq]
    have h1 : kms_hi (some (n : Int)) vs.length = n := by
      unfold kms_hi
      dsimp only
      rw [if_neg (by omega), Int.toNat_natCast]
      omega
    have h0 : kms_lo none vs.length = 0 := rfl
    show ((vs.drop (kms_lo none vs.length)).take (kms_hi (some (n : Int)) vs.length - kms_lo none vs.length)).toArray = _
    rw [h1, h0]
    simp
  refine subscriptTail_ops (Heap.IsList.typeIs (s := { s with heap := s.heap.push { cls := .type "slice", data := .fields #[.none, .int (n : Int) u, .none] } }) (hl.push _)) list_getitem_lookup
    (wpAny_getItem_list_slice (hl.push _) (Heap.IsSliceOf.new ..) .none (.int _ _) .none (by simp) ?_ (by rw [List.size_toArray, sizeLine_eq]; omega)) hs ht
  rw [e]
  show Q (.ref (s.heap.push _).objs.size) _
  rw [Heap.size_push]
  exact h
/-- how far down host h's order crawler i stands -/
def rkF (R : List (List Str)) (nx : List Str) (h i : Nat) : Nat := (R.getD h []).idxOf (nAt nx i)
def ixF (W : List (List Nat)) (i x : Nat) : Nat := (W.getD i []).idxOf x
def tornRow (W : List (List Nat)) (R : List (List Str)) (nx : List Str) (p : List Nat) (i : Nat) : List Nat := ((W.getD i []).take (ixF W i (p.getD i 0))).filter fun h => decide (rkF R nx h i < rkF R nx h (p.idxOf h))
def tornL (N : Nat) (W : List (List Nat)) (R : List (List Str)) (nx : List Str) (p : List Nat) : List Nat := (List.range N).flatMap fun i => (tornRow W R nx p i).map fun _ => i
def nextDue (N : Nat) (W : List (List Nat)) (p due : List Nat) : List Nat := (List.range N).map fun i => min (due.getD i 0) (ixF W i (p.getD i 0))
def dueStep (N : Nat) (W : List (List Nat)) (R : List (List Str)) (nx : List Str) (due p : List Nat) : List Nat := if tornL N W R nx p = [] then nextDue N W p due else due
inductive tornF (W : List (List Nat)) (R : List (List Str)) (nx : List Str) (p : List Nat) (v : Value) (ws : List Value) : Prop
  | mk (i : Nat) (t : Tok) (q1 : v = .int (i : Int) t) (q2 : ws.length = (tornRow W R nx p i).length) : tornF W R nx p v ws
def tornV (R : List (List Str)) (nx : List Str) (p : List Nat) (i : Nat) : Value → Bool := fun v => match v with
  | .int z _ => decide (rkF R nx z.toNat i < rkF R nx z.toNat (p.idxOf z.toNat))
  | _ => false
theorem ints_pair {vs : List Value} {ns : List Nat} (h : IntsN vs ns) : Paired (fun (n : Nat) v => ∃ t, v = .int (n : Int) t) ns vs := by
  induction ns generalizing vs with
  | nil =>
    have : vs = [] := List.eq_nil_of_length_eq_zero h.1
    subst this; exact .nil
  | cons n ns ih =>
    rcases vs with _ | ⟨v, vs⟩
    · exact absurd h.1 (by simp)
    · obtain ⟨⟨t, rfl⟩, h2⟩ := filt_cons h
      exact .cons ⟨t, rfl⟩ (ih h2)
theorem ints_take {vs : List Value} {ns : List Nat} (k : Nat) (h : IntsN vs ns) : IntsN (vs.take k) (ns.take k) := by
  obtain ⟨hl, h⟩ := h
  refine ⟨by simp [hl], fun i u hu => ?_⟩
  have hik : i < k := by
    have := (List.getElem?_eq_some_iff.mp hu).1
    rw [List.length_take] at this; omega
  rw [List.getElem?_take_of_lt hik] at hu ⊢
  exact h i u hu
theorem torn_row {W : List (List Nat)} {R : List (List Str)} {nx : List Str} {p : List Nat} {i k : Nat} {t : Tok} {ys ws : List Value} {F2 : Value → Value → Prop} (hw : i < W.length) (hk : k = ixF W i (p.getD i 0)) (hys : IntsN ys (W[i])) (hP : Paired F2 ((ys.take k).filter (tornV R nx p i)) ws) : tornF W R nx p (.int (i : Int) t) ws := by
  refine ⟨i, t, rfl, ?_⟩
  have h1 := pair_filter (p := fun h => decide (rkF R nx h i < rkF R nx h (p.idxOf h))) (q := tornV R nx p i) (fun h v e => by obtain ⟨t, rfl⟩ := e; simp [tornV]) (ints_pair (ints_take k hys))
  rw [← hP.length, ← h1.length, hk]
  unfold tornRow
  rw [List.getD_eq_getElem?_getD (l := W), List.getElem?_eq_getElem hw, Option.getD_some]
theorem int_lt (a b : Nat) : decide ((a : Int) < (b : Int)) = decide (a < b) := by
  rw [decide_eq_decide]; omega
theorem torn_all {N : Nat} {W : List (List Nat)} {R : List (List Str)} {nx : List Str} {p : List Nat} {vs : List Value} {wss : List (List Value)} (hl : vs.length = N) (hv : ∀ (j : Nat) (v : Value), vs[j]? = some v → j < N ∧ ∃ t, v = .int (0 + (j : Int) * 1) t)
    (hP : Paired (tornF W R nx p) vs wss) : wss.flatten.length = (tornL N W R nx p).length := by
  have h1 := rng_pair hl hv
  unfold tornL
  revert hP
  revert h1
  generalize List.range N = is
  intro h1
  clear hv hl
  induction h1 generalizing wss with
  | nil => intro h; cases h; rfl
  | cons e _ ih =>
    intro h
    cases h with
    | cons e2 h2 =>
      obtain ⟨t, rfl⟩ := e
      obtain ⟨i2, t2, e3, hlen⟩ := e2
      have : i2 = _ := Int.ofNat.inj (Value.int.inj e3).1.symm
      subst this
      rw [List.flatten_cons, List.length_append, List.flatMap_cons, List.length_append, ih h2, hlen, List.length_map]
theorem torn_len {N : Nat} {W : List (List Nat)} {R : List (List Str)} {nx : List Str} {p : List Nat} (LN : LawN N W R nx) : (tornL N W R nx p).length ≤ 16 := by
  have h1 := flat_len (f := fun i => (tornRow W R nx p i).map fun _ => i) (N := 4) (xs := List.range N) fun i hi => by
    obtain ⟨hw, hwp⟩ := law_w LN (List.mem_range.mp hi)
    rw [List.length_map]
    unfold tornRow
    refine Nat.le_trans (List.length_filter_le _ _) ?_
    refine Nat.le_trans (List.length_take_le' ..) ?_
    rw [List.getD_eq_getElem?_getD (l := W), List.getElem?_eq_getElem hw, Option.getD_some, hwp.length_eq, List.length_range]
    exact LN.n4
  rw [List.length_range] at h1
  have := LN.n4
  have h2 : (tornL N W R nx p).length ≤ N * 4 := h1
  omega
inductive dueF (W : List (List Nat)) (p due : List Nat) (v y : Value) : Prop
  | mk (i : Nat) (t t' : Tok) (q1 : v = .int (i : Int) t) (q2 : y = .int ((min (due.getD i 0) (ixF W i (p.getD i 0)) : Nat) : Int) t') : dueF W p due v y
theorem due_ints {N : Nat} {W : List (List Nat)} {p due : List Nat} {vs ys : List Value} (hl : vs.length = N) (hv : ∀ (j : Nat) (v : Value), vs[j]? = some v → j < N ∧ ∃ t, v = .int (0 + (j : Int) * 1) t) (hP : Paired (dueF W p due) vs ys) : IntsN ys (nextDue N W p due) :=
  pair_ints (fun i v y h1 h2 => by
    obtain ⟨t, rfl⟩ := h1
    obtain ⟨i2, t2, t3, e, rfl⟩ := h2
    have : i2 = i := Int.ofNat.inj (Value.int.inj e).1.symm
    subst this
    exact ⟨t3, rfl⟩) (rng_pair hl hv) hP
theorem push2_list {h : Heap} {o : Obj} {vs : List Value} : ((h.push o).push { cls := .type "list", data := .seq vs.toArray }).IsList (h.objs.size + 1) vs.toArray := by
  have := Heap.get?_push_size (h.push o) (o := { cls := .type "list", data := .seq vs.toArray }) rfl
  rw [Heap.size_push] at this
  exact ⟨_, this, rfl, _, rfl⟩
section
variable {prog : Program} {w : World} {A : Around} {E : Value → Shared → Prop} {s : Shared} {h₀ : Heap} {L l : Addr} {news : List (Addr × Obj)} {vs : List Value} {k : Nat} {Q : Value → Shared → Prop}
theorem method_n {name : Str} {id : String} {pl : Sem Bool} {Q : Value × List Value → Shared → Prop} (N : News h₀ L s.heap news) (hm : (l, lstO vs.toArray k) ∈ news) (slot : Slot "list" name id) (hty : typeOf (.builtin id) = pure (.type "method_descriptor"))
    (h : Q (.builtin id, [.ref l]) s) : wpAny (model prog w) A (getMethod (.ref l) name pl) Q E s := method_at (N _ hm).1 slot hty h
theorem index_ns {xs : List Str} {x : Str} {t : Tok} (N : News h₀ L s.heap news) (hm : (l, lstO vs.toArray k) ∈ news) (hS : StrsAre vs xs) (hx : x ∈ xs) (hsz : vs.length ≤ 100000)
    (h : Q (.int (xs.idxOf x : Int) s.toks) { s with toks := s.toks + 1 }) : wpAny (model prog w) A (call (.builtin "list.index") [.ref l, .str x t]) Q E s := index_str (isl (N _ hm).1) hS hx hsz h
theorem index_ni {ns : List Nat} {n : Nat} {t : Tok} (N : News h₀ L s.heap news) (hm : (l, lstO vs.toArray k) ∈ news) (hS : IntsN vs ns) (hx : n ∈ ns) (hsz : vs.length ≤ 100000)
    (h : Q (.int (ns.idxOf n : Int) s.toks) { s with toks := s.toks + 1 }) : wpAny (model prog w) A (call (.builtin "list.index") [.ref l, .int (n : Int) t]) Q E s := index_int (isl (N _ hm).1) hS rfl hx hsz h
end
local macro_rules | `(tactic| k_room) => `(tactic| ktr_room)
local macro_rules | `(tactic| k_all) => `(tactic| assumption)
local macro_rules | `(tactic| k_get) => `(tactic| assumption)
local macro_rules | `(tactic| walk_at "exec Assign cons ListComp") => `(tactic| (k_here; (with_reducible show wpAny _ _ (exec (Stmt.Assign [Expr.Name (PySem.Str.ofString "torn") _] _ _) _) _ _ _); refine hold_ ?_))
local macro_rules | `(tactic| walk_at "eval ListComp") => `(tactic| (k_here; refine hold_ ?_))
local macro_rules | `(tactic| walk_at "call builtin:min") => `(tactic| (k_here; refine hold_ ?_))
theorem map3_t {m : Str → Option Value} {u v w a : Option Value} : (fun y => if y = Str.ofString "torn" then a else map3 s_queue s_best s_torn m u v w y) = map3 s_queue s_best s_torn m u v a := by
  funext y
  unfold map3
  by_cases h1 : y = Str.ofString "torn"
  · have h2 : ¬ Str.ofString "torn" = s_queue := by decide
    have h3 : ¬ Str.ofString "torn" = s_best := by decide
    subst h1
    rw [if_pos rfl, if_neg h2, if_neg h3, if_pos rfl]
  · rw [if_neg h1]
    by_cases h2 : y = s_queue
    · rw [if_pos h2, if_pos h2]
    · rw [if_neg h2, if_neg h2]
      by_cases h3 : y = s_best
      · rw [if_pos h3, if_pos h3]
      · rw [if_neg h3, if_neg h3, if_neg h1, if_neg h1]
theorem subD {d2 d i a9 a8 a7 a6 a5 a4 a3 a2 a1 g u : Addr × Obj} {t : List (Addr × Obj)} : ∀ p ∈ i :: a9 :: a8 :: a7 :: a6 :: a5 :: a4 :: a3 :: a2 :: a1 :: d2 :: u :: t, p ∈ d2 :: d :: i :: a9 :: a8 :: a7 :: a6 :: a5 :: a4 :: a3 :: a2 :: a1 :: g :: u :: t := sub_of [2, 3, 4, 5, 6, 7, 8, 9, 10, 11, 0, 13] 14 rfl
theorem min_cast {a b : Nat} {t u : Tok} : ∃ t', (if (a : Int) < (b : Int) then Value.int (a : Int) t else .int (b : Int) u) = .int ((min b a : Nat) : Int) t' := by
  by_cases h : a < b
  · exact ⟨t, by rw [if_pos (by omega), Nat.min_eq_right (by omega)]⟩
  · exact ⟨u, by rw [if_neg (by omega), Nat.min_eq_left (by omega)]⟩
local macro_rules | `(tactic| walk_at "truthy ref") => `(tactic| (k_here; refine hold_ ?_))
local macro_rules | `(tactic| walk_at "subscriptTail") => `(tactic| (k_here; (with_reducible show wpAny _ _ (subscriptTail _ _ (Value.ref _) (Value.ref _)) _ _ _); refine hold_ ?_))
local macro_rules | `(tactic| walk_at "subscriptTail") => `(tactic| (k_here; (with_reducible show wpAny _ _ (subscriptTail _ _ (Value.ref _) (Value.int _ _)) _ _ _); refine sub_l (by assumption) (by repeat (first | exact .head _ | assumption | refine .tail _ ?_)) (by assumption) (by omega) ?_))
local macro_rules | `(tactic| walk_at "getMethod ref") => `(tactic| (k_here; (with_reducible show wpAny _ _ (getMethod (Value.ref _) (PySem.Str.ofString "index") _) _ _ _); refine method_n (by assumption) (by repeat (first | exact .head _ | assumption | refine .tail _ ?_)) PySem.F.slot_list_index PySem.F.type_list_index ?_))
local macro_rules | `(tactic| walk_at "call builtin:list.index") => `(tactic| (k_here; refine index_ns (by assumption) (by repeat (first | exact .head _ | assumption | refine .tail _ ?_)) (by assumption) (by assumption) (by omega) ?_))
local macro_rules | `(tactic| walk_at "call builtin:list.index") => `(tactic| (k_here; refine index_ni (by assumption) (by repeat (first | exact .head _ | assumption | refine .tail _ ?_)) (by assumption) (by assumption) (by omega) ?_))
theorem dbody_c {w : World} {fA : Addr} {cD : Value} {loose : List Str} {mean : ExcName → Option Value} {mg mb : Str → Option Value} {h₀ base : Heap} {L : Addr} {cs : Scope} {body : List Stmt} {s : Shared} {m₀ : Str → Option Value} {u1 u2 u3 : Option Value}
  {tl : List (Addr × Obj)} {N : Nat} {W : List (List Nat)} {R : List (List Str)} {nx : List Str} {nl wl rl hl dl pl IT : Addr} {nv wv rv hv dv pv : List Value} {kn kw kr kh kd kp : Nat} {due p : List Nat} {oI o1 o2 o3 o4 o5 o6 o7 o8 o9 : Obj} {t1 : Tok}
  {E : Value → Shared → Prop} {Q : Flow → Shared → Prop}
  (hsc : lawSc = cs) (hbd : forDB = body) (K0 : Below callerA base [] h₀) (X : (hd.heap_39 w.params).In h₀) (T0 : Top topProg loose mean mg mb h₀)
  (F : Fr h₀ L s.heap (map3 s_queue s_best s_torn m₀ u1 u2 u3))
  (Nw : News h₀ L s.heap ((IT, oI) :: (L + 9, o9) :: (L + 8, o8) :: (L + 7, o7) :: (L + 6, o6) :: (L + 5, o5) :: (L + 4, o4) :: (L + 3, o3) :: (L + 2, o2) :: (L + 1, o1) :: (dl, lstO dv.toArray kd) :: (pl, lstO pv.toArray kp) :: tl))
  (d9 : o9.data = .cell (some (.ref pl))) (d8 : o8.data = .cell (some (.ref dl))) (d4 : o4.data = .cell (some (.ref rl))) (d3 : o3.data = .cell (some (.ref wl))) (d2 : o2.data = .cell (some (.ref nl))) (d1 : o1.data = .cell (some (.int (N : Int) t1)))
  (LN : LawN N W R nx) (LF : LawT tl W R nx nl wl rl hl nv wv rv hv kn kw kr kh) (hdv : IntsN dv due) (hdl : due.length = N) (hpv : IntsN pv p) (hpp : p.Perm (List.range N))
  (c8 : ∀ p ∈ tl, @Ne Nat p.1 (L + 8)) (i8 : @Ne Nat IT (L + 8)) (n8 : @Ne Nat dl (L + 8)) (m8 : @Ne Nat pl (L + 8))
  (hret : ∀ (h' : Heap) (tk' kd' : Nat) (dl' : Addr) (dv' : List Value) (o8' : Obj) (u3' : Option Value), o8'.data = .cell (some (.ref dl')) → IntsN dv' (dueStep N W R nx due p) → Fr h₀ L h' (map3 s_queue s_best s_torn m₀ u1 u2 u3') →
    News h₀ L h' ((IT, oI) :: (L + 9, o9) :: (L + 8, o8') :: (L + 7, o7) :: (L + 6, o6) :: (L + 5, o5) :: (L + 4, o4) :: (L + 3, o3) :: (L + 2, o2) :: (L + 1, o1) :: (dl', lstO dv'.toArray kd') :: (pl, lstO pv.toArray kp) :: tl) → (dl' = dl ∨ (@Ne Nat dl' IT ∧ @Ne Nat dl' (L + 8) ∧ @Ne Nat dl' (L + 9))) → Q .next { s with heap := h', toks := tk' }) :
  wpAny (model Challenge.rw_ij0195_02.row.prog w) (callerA.deeper (envOfC (Str.ofString "law") cs L fA cD)) (execs body (envOfC (Str.ofString "law") cs L fA cD)) Q E s := by
  w_strict (
    (revert X; k_fill; intro X)
    have hs1 : lawSt = .FunctionDef _ _ _ _ _ _ _ _ _ _ :: _ := rfl
    unfold lawSc at hsc
    have hb1 : forDB = [_, _] := rfl
    rw [hs1] at hsc
    dsimp only [scOf] at hsc
    rw [hb1] at hbd
    subst hsc hbd
    clear hs1 hb1
    obtain ⟨nm, wm, rm, hm, sn, sw, sr, sh⟩ := LF
    have hN4 := LN.n4
    k_steps
    refine of_hold ?_
    refine comp2_use (by with_unfolding_all rfl) (by rfl) (by rfl) (by with_unfolding_all rfl) (by decide) (by rfl) (by decide) (by rfl) (by rfl) (by decide) ?_
    k_steps
    with_reducible rename Fr _ _ _ _ => F1
    with_reducible rename News _ _ _ _ => N1
    refine ⟨_, _, _, _, _, _, tornF W R nx p, src_range (n := N) rfl (by assumption) (small_one (by decide) (by decide) (by omega) (by omega)) rng_size, by omega, rfl, F1, N1, ?hin, ?hdn⟩
    (case hin =>
      intro i v C oC m₂ s₃ E' hv hC hm F3 N3 hlt
      obtain ⟨hi, t, rfl⟩ := hv
      have e : (0 + (i : Int) * 1) = (i : Int) := by omega
      rw [e] at hm ⊢
      obtain ⟨hw, hwp⟩ := law_w LN hi
      obtain ⟨_, hwi, a, o, rfl, hao, ys, ky, rfl, hys⟩ := pair_at sw hw
      have hpl : p.length = N := by rw [hpp.length_eq, List.length_range]
      have hyl : ys.length = N := by rw [hys.1, hwp.length_eq, List.length_range]
      obtain ⟨tp, hpi⟩ := ints_at hpv (i := i) (by omega)
      have hpm : p.getD i 0 ∈ W[i] := hwp.mem_iff.mpr (hpp.mem_iff.mp (by rw [List.getD_eq_getElem?_getD, List.getElem?_eq_getElem (by omega)]; exact List.getElem_mem _))
      have hix := List.idxOf_lt_length_of_mem hpm
      have hixe : (W[i]).idxOf (p.getD i 0) = ixF W i (p.getD i 0) := by
        unfold ixF; rw [List.getD_eq_getElem?_getD (l := W), List.getElem?_eq_getElem hw, Option.getD_some]
      have hwl : (W[i]).length = N := by rw [hwp.length_eq, List.length_range]
      obtain ⟨tn, hni⟩ := names_at sn (i := i) (by rw [LN.nl]; exact hi)
      have hnm : nAt nx i ∈ nx := by
        unfold nAt
        rw [List.getD_eq_getElem?_getD, List.getElem?_eq_getElem (by rw [LN.nl]; exact hi)]
        exact List.getElem_mem _
      k_steps
      refine of_hold ?_
      refine kba_turn (value' := PySem.Expr.Name (PySem.Str.ofString "_") ⟨0, 0, 0, 0⟩) (fun _ => rfl) ?_
      refine slice_raw (vs := ys) ⟨_, (N3 (a, lstO ys.toArray ky) (by first | exact sub_in 12 hao rfl | exact sub_in 13 hao rfl | exact sub_in 14 hao rfl | exact sub_in 15 hao rfl)).1, rfl, _, rfl⟩ (by omega) (by omega) ?_
      refine ⟨⟨_, _, rfl, fun b o e => Heap.get?_push_of_some _ (Heap.get?_push_of_some _ e)⟩, _, _, tornV R nx p i, fun _ z => z = .int (i : Int) t, srcIn_list (vs := ys.take ((W[i]).idxOf (p.getD i 0))) rfl ?it0 (.inr (.inr ?it1)), ?it2, ?it, ?ie, ?iff⟩
      (case it0 => exact push2_list)
      (case it1 => exact Heap.get?_none_of_le (Nat.le_succ _))
      (case it2 => rw [List.length_take]; omega)
      (case iff => exact fun vs2 ws h1 h2 h3 => by obtain rfl := items_eq h1 h2; exact torn_row hw hixe hys h3)
      (case ie =>
        intro j u oC2 m5 s5 E5 hu hpu hC5 hmx hmy F5 N5
        k_steps
        exact ⟨_, _, rfl, fun b o e => e⟩)
      (case it =>
        intro j u oC2 m5 s5 E5 hu hC5 hmx hmy F5 N5
        obtain ⟨h, th, hh1, rfl⟩ := (ints_take _ hys).2 _ _ hu
        have hhW : h ∈ W[i] := List.mem_of_mem_take (List.mem_of_getElem? hh1)
        have hhN : h < N := by simpa using hwp.mem_iff.mp hhW
        have hhp : h ∈ p := hpp.mem_iff.mpr (by simpa using hhN)
        have hhR : h < R.length := by rw [LN.rl]; exact hhN
        obtain ⟨_, hrh, b, ob, rfl, hbo, rs, kr2, rfl, hrs⟩ := pair_at sr hhR
        have hRp : (R[h]).Perm nx := LN.rp _ (List.getElem_mem _)
        have hrl : rs.length = N := by rw [StrsAre.length hrs, hRp.length_eq, LN.nl]
        have hpv2 := hpv.1
        have hidx : p.idxOf h < N := by rw [← hpl]; exact List.idxOf_lt_length_of_mem hhp
        obtain ⟨tn2, hni2⟩ := names_at sn (i := p.idxOf h) (by rw [LN.nl]; exact hidx)
        have hnm2 : nAt nx (p.idxOf h) ∈ R[h] := hRp.mem_iff.mpr (by
          unfold nAt
          rw [List.getD_eq_getElem?_getD, List.getElem?_eq_getElem (by rw [LN.nl]; exact hidx)]
          exact List.getElem_mem _)
        have hnm1 : nAt nx i ∈ R[h] := hRp.mem_iff.mpr hnm
        refine wpAny_tests_one ?_
        have hRe : R.getD h [] = R[h] := by rw [List.getD_eq_getElem?_getD, List.getElem?_eq_getElem hhR, Option.getD_some]
        k_steps
        · show _ = decide (rkF R nx h i < rkF R nx h (p.idxOf h))
          unfold rkF
          rw [hRe]
          exact int_lt _ _
        · exact ⟨_, _, rfl, fun b o e => e⟩))
    (case hdn =>
      intro D h4 tk4 ys hys F5 N5 hD hDn hst
      obtain ⟨vs, wss, hlen, hitems, hP, rfl⟩ := hys
      have htl := torn_all hlen hitems hP
      obtain ⟨kD, hDo⟩ := hD
      have N6 := news_add F1 N5 hDo hDn
      have q6 := fresh_all N1 hDn
      simp only [List.mem_cons, forall_eq_or_imp] at q6
      clear F1 N1 N5 hP hst hDo hDn
      k_steps
      refine of_hold ?_
      with_reducible rename Fr _ _ _ _ => F7
      with_reducible rename News _ _ _ _ => N7
      refine wpAny_truthy_list (items := wss.flatten.toArray) ⟨_, (N7 _ (.head _)).1, rfl, _, rfl⟩ (by rw [List.size_toArray, htl]; have := torn_len (N := N) (W := W) (R := R) (nx := nx) (p := p) LN; omega) ?_
      by_cases ht : tornL N W R nx p = []
      · have hf : wss.flatten = [] := List.eq_nil_of_length_eq_zero (by rw [htl, ht]; rfl)
        rw [hf]
        k_steps
        refine of_hold ?_
        refine comp_at (by with_unfolding_all rfl) (by decide) (by rfl) (by decide) (by rfl) ?_
        k_steps
        with_reducible rename Fr _ _ _ _ => F8
        with_reducible rename News _ _ _ _ => N8
        refine ⟨_, _, _, _, _, _, fun _ => true, dueF W p due, src_range (n := N) rfl (by assumption) (small_one (by decide) (by decide) (by omega) (by omega)) rng_size, by rw [sizeLine_eq]; omega, F8, N8, ?ht, ?he, ?hd⟩
        (case ht => exact fun i v C oC m₂ s₃ E' hv hC hm F3 N3 hlt => wpAny_tests_nil ⟨rfl, _, _, rfl, fun b o e => e⟩)
        (case he =>
          intro i v C oC m₂ s₃ E' hv hp hC hm F3 N3 hlt
          obtain ⟨hi, t, rfl⟩ := hv
          have e : (0 + (i : Int) * 1) = (i : Int) := by omega
          rw [e] at hm ⊢
          obtain ⟨hw, hwp⟩ := law_w LN hi
          obtain ⟨_, hwi, a, o, rfl, hao, ys, ky, rfl, hys⟩ := pair_at sw hw
          have hpl : p.length = N := by rw [hpp.length_eq, List.length_range]
          have hyl : ys.length = N := by rw [hys.1, hwp.length_eq, List.length_range]
          obtain ⟨tp, hpi⟩ := ints_at hpv (i := i) (by omega)
          obtain ⟨td, hdi⟩ := ints_at hdv (i := i) (by omega)
          have hpm : p.getD i 0 ∈ W[i] := hwp.mem_iff.mpr (hpp.mem_iff.mp (by rw [List.getD_eq_getElem?_getD, List.getElem?_eq_getElem (by omega)]; exact List.getElem_mem _))
          have hixe : (W[i]).idxOf (p.getD i 0) = ixF W i (p.getD i 0) := by
            unfold ixF; rw [List.getD_eq_getElem?_getD (l := W), List.getElem?_eq_getElem hw, Option.getD_some]
          k_steps
          refine of_hold ?_
          refine min_two_ints rfl fun h9 tk9 k9 => ?_
          obtain ⟨t9, e9⟩ := min_cast (a := (W[i]).idxOf (p.getD i 0)) (b := due.getD i 0) (t := s₃.toks) (u := td)
          rw [e9, hixe]
          exact ⟨⟨i, t, t9, rfl, rfl⟩, _, _, rfl, k9⟩)
        (case hd =>
          intro D2 h8 tk8 vs2 ys2 hlen2 hitems2 F9 N9 hD2 hDn2 hst2 hP2
          rw [List.filter_eq_self.mpr (fun _ _ => rfl)] at hP2
          have hys2 := due_ints hlen2 hitems2 hP2
          obtain ⟨kD2, hDo2⟩ := hD2
          have q8 := fresh_all N8 hDn2
          simp only [List.mem_cons, forall_eq_or_imp] at q8
          have N10 := news_add F8 N9 hDo2 hDn2
          clear F8 N8 N9 hDo2 hDn2 hP2 hst2
          k_steps
          with_reducible rename Fr _ _ _ _ => F11
          with_reducible rename News _ _ _ _ => N11
          with_reducible rename _ = Data.cell (some (Value.ref D2)) => dD
          rw [map3_t] at F11
          obtain ⟨_, qi, q9, q8, _⟩ := q8
          exact hret _ _ kD2 D2 ys2 _ _ dD (by unfold dueStep; rw [if_pos ht]; exact hys2) F11 (news_sub N11 subD) (.inr ⟨Ne.symm qi, Ne.symm q8, Ne.symm q9⟩))
      · have hf : wss.flatten ≠ [] := fun e => ht (List.eq_nil_of_length_eq_zero (by rw [← htl, e]; rfl))
        rw [show (!wss.flatten.toArray.isEmpty) = true from by simpa using hf]
        k_steps
        with_reducible rename Fr _ _ _ _ => F11
        with_reducible rename News _ _ _ _ => N11
        rw [map3_t] at F11
        exact hret _ _ kd dl dv _ _ d8 (by unfold dueStep; rw [if_neg ht]; exact hdv) F11 (fun p hp => N11 p (.tail _ hp)) (.inl rfl)))
end Mine
end
section
open PySem PySem.W PyProof.Rows PySem.Calls
set_option maxRecDepth 100000
set_option maxHeartbeats 0
namespace Mine
theorem rng_ints {vs : List Value} {N : Nat} (h : RngVals vs N) : IntsN vs (List.range N) := by
  refine ⟨by rw [h.1, List.length_range], fun i v hv => ?_⟩
  obtain ⟨t, e⟩ := h.2 i v hv
  have hi : i < N := by rw [← h.1]; exact (List.getElem?_eq_some_iff.mp hv).1
  exact ⟨i, t, by rw [List.getElem?_range hi], e⟩
theorem dueStep_len {N : Nat} {W : List (List Nat)} {R : List (List Str)} {nx : List Str} {due p : List Nat} (h : due.length = N) : (dueStep N W R nx due p).length = N := by
  unfold dueStep nextDue
  split
  · simp
  · exact h
theorem orders_perm : ∀ (n : Nat) (xs p : List Nat), xs.Nodup → xs.length = n → p ∈ ordersF n xs → p.Perm xs
  | 0, xs, p, _, hl, h => by
    have : xs = [] := List.eq_nil_of_length_eq_zero hl
    subst this
    simp [ordersF] at h
    subst h; exact .refl _
  | n + 1, xs, p, hnd, hl, h => by
    unfold ordersF at h
    obtain ⟨x, hx, h⟩ := List.mem_flatMap.mp h
    obtain ⟨q, hq, rfl⟩ := List.mem_map.mp h
    have e : xs.filter (· != x) = xs.erase x := (hnd.erase_eq_filter x).symm
    rw [e] at hq
    have hle : (xs.erase x).length = n := by rw [List.length_erase_of_mem hx, hl]; rfl
    exact (List.Perm.cons x (orders_perm n _ q (hnd.erase x) hle hq)).trans (List.perm_cons_erase hx).symm
theorem subE {a9 a8 a7 a6 a5 a4 a3 a2 a1 d e : Addr × Obj} {els t : List (Addr × Obj)} : ∀ p ∈ a9 :: a8 :: a7 :: a6 :: a5 :: a4 :: a3 :: a2 :: a1 :: d :: t, p ∈ a9 :: a8 :: a7 :: a6 :: a5 :: a4 :: a3 :: a2 :: a1 :: d :: e :: (els ++ t) :=
  sub_gen [0, 1, 2, 3, 4, 5, 6, 7, 8, 9] t (fun _ h => sub_in 11 (List.mem_append_right els h) rfl) rfl
theorem subF {i a9 a8 a7 a6 a5 a4 a3 a2 a1 d u : Addr × Obj} {t : List (Addr × Obj)} (hu : u ∈ t) : ∀ p ∈ i :: a9 :: a8 :: a7 :: a6 :: a5 :: a4 :: a3 :: a2 :: a1 :: d :: u :: t, p ∈ i :: a9 :: a8 :: a7 :: a6 :: a5 :: a4 :: a3 :: a2 :: a1 :: d :: t :=
  sub_gen [0, 1, 2, 3, 4, 5, 6, 7, 8, 9, 10] (u :: t) (allc (sub_in 11 hu rfl) fun _ h => sub_in 11 h rfl) rfl
theorem subG {i a9 a8 a7 a6 a5 a4 a3 a2 a1 d u : Addr × Obj} {t : List (Addr × Obj)} : ∀ p ∈ i :: a9 :: a8 :: a7 :: a6 :: a5 :: a4 :: a3 :: a2 :: a1 :: d :: t, p ∈ i :: a9 :: a8 :: a7 :: a6 :: a5 :: a4 :: a3 :: a2 :: a1 :: d :: u :: t :=
  sub_of [0, 1, 2, 3, 4, 5, 6, 7, 8, 9, 10] 12 rfl
theorem off_but {a9 a8 a7 a6 a5 a4 a3 a2 a1 d d' b8 : Addr × Obj} {t : List (Addr × Obj)} {I : Addr} (h : ∀ p ∈ a9 :: a8 :: a7 :: a6 :: a5 :: a4 :: a3 :: a2 :: a1 :: d :: t, @Ne Nat p.1 I) (h8 : b8.1 = a8.1) (hd : d'.1 = d.1 ∨ @Ne Nat d'.1 I) : ∀ p ∈ a9 :: b8 :: a7 :: a6 :: a5 :: a4 :: a3 :: a2 :: a1 :: d' :: t, p.1 ≠ I :=
  allc (h _ (sub_at 0 rfl)) (allc (by rw [h8]; exact h a8 (sub_at 1 rfl)) fun p hp => by
    have hd' : @Ne Nat d'.1 I := hd.elim (fun e => by rw [e]; exact h d (sub_at 9 rfl)) id
    exact sub_all (s := [a7, a6, a5, a4, a3, a2, a1]) (fun p hp => h p (sub_at' [2, 3, 4, 5, 6, 7, 8] rfl p hp)) (allc hd' fun p hp => h p (sub_in 10 hp rfl)) p hp)
/-- between the dealings -/
inductive JD (N : Nat) (W : List (List Nat)) (R : List (List Str)) (nx : List Str) (ps : List (List Nat)) (due0 : List Nat) (L : Addr) (m₀ : Str → Option Value) (u1 u2 : Option Value) (o7 o6 o5 o4 o3 o2 o1 : Obj) (tl : List (Addr × Obj)) (i : Nat) (m : Str → Option Value) (nw : List (Addr × Obj)) : Prop
  | mk (u3 : Option Value) (due : List Nat) (dl : Addr) (dv : List Value) (kd : Nat) (o8 : Obj) (q1 : m = map3 s_queue s_best s_torn m₀ u1 u2 u3) (q2 : nw = (L + 8, o8) :: (L + 7, o7) :: (L + 6, o6) :: (L + 5, o5) :: (L + 4, o4) :: (L + 3, o3) :: (L + 2, o2) :: (L + 1, o1) :: (dl, lstO dv.toArray kd) :: tl) (q3 : o8.data = .cell (some (.ref dl))) (q4 : IntsN dv due) (q5 : due.length = N) (q6 : due = (ps.take i).foldl (dueStep N W R nx) due0) (q7 : @Ne Nat dl (L + 8)) (q8 : @Ne Nat dl (L + 9)) : JD N W R nx ps due0 L m₀ u1 u2 o7 o6 o5 o4 o3 o2 o1 tl i m nw
theorem jd_off {N : Nat} {W : List (List Nat)} {R : List (List Str)} {nx : List Str} {ps : List (List Nat)} {due0 : List Nat} {L : Addr} {m₀ : Str → Option Value} {u1 u2 : Option Value} {o7 o6 o5 o4 o3 o2 o1 : Obj} {tl : List (Addr × Obj)} (h9 : ∀ p ∈ tl, @Ne Nat p.1 (L + 9)) :
    ∀ i m nw, JD N W R nx ps due0 L m₀ u1 u2 o7 o6 o5 o4 o3 o2 o1 tl i m nw → ∀ p ∈ nw, @Ne Nat p.1 (L + 9) := by
  rintro i m nw ⟨u3, due, dl, dv, kd, o8, rfl, rfl, _, _, _, _, _, hn⟩
  exact allc (ne_off 8 9 rfl) (allc (ne_off 7 9 rfl) (allc (ne_off 6 9 rfl) (allc (ne_off 5 9 rfl) (allc (ne_off 4 9 rfl) (allc (ne_off 3 9 rfl) (allc (ne_off 2 9 rfl) (allc (ne_off 1 9 rfl) (allc hn h9))))))))
local macro_rules | `(tactic| k_room) => `(tactic| ktr_room)
local macro_rules | `(tactic| k_all) => `(tactic| assumption)
local macro_rules | `(tactic| k_get) => `(tactic| assumption)
local macro_rules | `(tactic| walk_at "call type:list") => `(tactic| (k_here; refine hold_ ?_))
local macro_rules | `(tactic| walk_at "call ref") => `(tactic| (k_here; refine hold_ ?_))
theorem deals_c {w : World} {fA : Addr} {cD : Value} {loose : List Str} {mean : ExcName → Option Value} {mg mb : Str → Option Value} {h₀ base : Heap} {L : Addr} {cs : Scope} {s : Shared} {m₀ : Str → Option Value} {u1 u2 u3 v9 : Option Value}
  {x : Str} {px pos : Pos} {iter : Expr} {body rest : List Stmt}
  {tl : List (Addr × Obj)} {N : Nat} {W : List (List Nat)} {R : List (List Str)} {nx : List Str} {nl wl rl hl dl : Addr} {nv wv rv hv dv : List Value} {kn kw kr kh kd : Nat} {due : List Nat} {o1 o2 o3 o4 o5 o6 o7 o8 o9 : Obj} {t1 : Tok}
  {E : Value → Shared → Prop} {Q : Flow → Shared → Prop}
  (hsc : lawSc = cs) (hfd : nthS 10 lawB = .For (.Name x px) iter body [] pos :: rest) (K0 : Below callerA base [] h₀) (X : (hd.heap_39 w.params).In h₀) (T0 : Top topProg loose mean mg mb h₀)
  (F : Fr h₀ L s.heap (map3 s_queue s_best s_torn m₀ u1 u2 u3))
  (Nw : News h₀ L s.heap ((L + 9, o9) :: (L + 8, o8) :: (L + 7, o7) :: (L + 6, o6) :: (L + 5, o5) :: (L + 4, o4) :: (L + 3, o3) :: (L + 2, o2) :: (L + 1, o1) :: tl))
  (d9 : o9.data = .cell v9) (d8 : o8.data = .cell (some (.ref dl))) (d4 : o4.data = .cell (some (.ref rl))) (d3 : o3.data = .cell (some (.ref wl))) (d2 : o2.data = .cell (some (.ref nl))) (d1 : o1.data = .cell (some (.int (N : Int) t1)))
  (hdm : (dl, lstO dv.toArray kd) ∈ tl) (LN : LawN N W R nx) (LF : LawT tl W R nx nl wl rl hl nv wv rv hv kn kw kr kh) (hdv : IntsN dv due) (hdl : due.length = N) (hoff : OffC L tl)
  (hret : ∀ (h' : Heap) (tk' kd' : Nat) (dl' : Addr) (dv' : List Value) (o8' o9' : Obj) (u3' : Option Value), o8'.data = .cell (some (.ref dl')) → IntsN dv' ((ordersF N (List.range N)).foldl (dueStep N W R nx) due) → Fr h₀ L h' (map3 s_queue s_best s_torn m₀ u1 u2 u3') →
    News h₀ L h' ((L + 9, o9') :: (L + 8, o8') :: (L + 7, o7) :: (L + 6, o6) :: (L + 5, o5) :: (L + 4, o4) :: (L + 3, o3) :: (L + 2, o2) :: (L + 1, o1) :: (dl', lstO dv'.toArray kd') :: tl) → Q .next { s with heap := h', toks := tk' })
  (hE : PassesOwn (model Challenge.rw_ij0195_02.row.prog w) (callerA.deeper (envOfC (Str.ofString "law") cs L fA cD)) (envOfC (Str.ofString "law") cs L fA cD) E) :
  wpAny (model Challenge.rw_ij0195_02.row.prog w) (callerA.deeper (envOfC (Str.ofString "law") cs L fA cD)) (exec (.For (.Name x px) iter body [] pos) (envOfC (Str.ofString "law") cs L fA cD)) Q E s := by
  w_strict (
    (revert X; k_fill; intro X)
    have hs1 : lawSt = .FunctionDef _ _ _ _ _ _ _ _ _ _ :: _ := rfl
    unfold lawSc at hsc
    rw [hs1] at hsc
    dsimp only [scOf] at hsc
    subst hsc
    have hw1 : nthS 10 lawB = .For (.Name _ _) _ _ _ _ :: _ := rfl
    rw [hw1] at hfd
    injection hfd with e1 e2
    injection e1 with e3 e4 e5 e6 e7
    injection e3 with e8 e9
    subst e8 e9 e4 e5 e7
    clear e2 e6 hw1 hs1
    have hN2 := LN.n2
    have hN4 := LN.n4
    refine for_cellJ (K := L + 9) rfl rfl rfl ?_ (hE := hE)
    k_steps
    refine of_hold ?_
    with_reducible rename Fr _ _ _ _ => F1
    with_reducible rename News _ _ _ _ => N1
    refine list_rng (N := N) (by rfl) F1 N1 (by assumption) rfl (by omega) fun D1 vs1 c1 h2 tk2 hvs1 F2 N2 l2 => ?_
    clear F1 N1
    have n2 : ∀ p ∈ (L + 9, o9) :: (L + 8, o8) :: (L + 7, o7) :: (L + 6, o6) :: (L + 5, o5) :: (L + 4, o4) :: (L + 3, o3) :: (L + 2, o2) :: (L + 1, o1) :: tl, @Ne Nat D1 p.1 := fun p hp => Ne.symm (Nat.ne_of_lt (l2 p hp))
    k_lt l2
    k_steps
    refine of_hold ?_
    with_reducible rename Fr _ _ _ _ => F3
    with_reducible rename News _ _ _ _ => N3
    have hvi := rng_ints hvs1
    with_unfolding_all refine' orders_c N ?k1 ?k2 ?k3 ?k4 ?k5 ?k6 ?k7 ?k8 hvi List.nodup_range hvs1.1 hN4 ?_
    (case k1 => exact K0)
    (case k2 => exact F3)
    (case k3 => k_asm)
    (case k4 => k_asm)
    (case k5 => exact rfl)
    (case k6 =>
      have h0 : callerA.depth + 1 + 80 < recursionLimit := by decide
      omega)
    (case k7 =>
      have h0 : callerA.units + 3 + 640 < cLine := by decide
      omega)
    (case k8 => exact (N3 _ (.head _)).1)
    intro D h5 tk5 kD els hP st5 hDo hDn hels
    have hfe : ∀ e ∈ els, ∀ p ∈ (D1, lstO vs1.toArray c1) :: (L + 9, o9) :: (L + 8, o8) :: (L + 7, o7) :: (L + 6, o6) :: (L + 5, o5) :: (L + 4, o4) :: (L + 3, o3) :: (L + 2, o2) :: (L + 1, o1) :: tl, @Ne Nat p.1 e.1 := fun e he => fresh_all N3 (hels e he).2.1
    have hfD := fresh_all N3 hDn
    have hsub : ∀ p ∈ tl, p ∈ (D, lstO (refsOf els).toArray kD) :: (els ++ tl) := fun p hp => .tail _ (List.mem_append_right _ hp)
    have LD := LF.mono hsub
    have cD : ∀ j oj, (L + j, oj) ∈ (D1, lstO vs1.toArray c1) :: (L + 9, o9) :: (L + 8, o8) :: (L + 7, o7) :: (L + 6, o6) :: (L + 5, o5) :: (L + 4, o4) :: (L + 3, o3) :: (L + 2, o2) :: (L + 1, o1) :: tl → (∀ p ∈ tl, @Ne Nat p.1 (L + j)) → ∀ p ∈ (D, lstO (refsOf els).toArray kD) :: (els ++ tl), @Ne Nat p.1 (L + j) := fun j oj hj' ht p hp => by
      rcases List.mem_cons.mp hp with rfl | hp
      · exact Ne.symm (hfD _ hj')
      · rcases List.mem_append.mp hp with hp | hp
        · exact Ne.symm (hfe p hp _ hj')
        · exact ht p hp
    have c8 := cD 8 o8 (sub_at 2 rfl) (hoff.ne (j := 8) (by decide) (by decide))
    have c9 := cD 9 o9 (sub_at 1 rfl) (hoff.ne (j := 9) (by decide) (by decide))
    have F5 := F3.keeps st5
    have N5 : News h₀ L h5 ((L + 9, o9) :: (L + 8, o8) :: (L + 7, o7) :: (L + 6, o6) :: (L + 5, o5) :: (L + 4, o4) :: (L + 3, o3) :: (L + 2, o2) :: (L + 1, o1) :: (dl, lstO dv.toArray kd) :: (D, lstO (refsOf els).toArray kD) :: (els ++ tl)) := fun p hp => by
      have hk : ∀ p ∈ (D1, lstO vs1.toArray c1) :: (L + 9, o9) :: (L + 8, o8) :: (L + 7, o7) :: (L + 6, o6) :: (L + 5, o5) :: (L + 4, o4) :: (L + 3, o3) :: (L + 2, o2) :: (L + 1, o1) :: tl, h5.get? p.1 = some p.2 ∧ p.1 ≠ L ∧ h₀.get? p.1 = none := fun p hp => ⟨st5 _ _ (N3 p hp).1, (N3 p hp).2⟩
      have hr : ∀ p ∈ els ++ tl, h5.get? p.1 = some p.2 ∧ p.1 ≠ L ∧ h₀.get? p.1 = none := fun p h => by
        rcases List.mem_append.mp h with h | h
        · exact news_add (news := []) F3 (fun _ h => by cases h) (hels p h).1 (hels p h).2.1 _ (.head _)
        · exact hk p (sub_in 10 h rfl)
      exact allc (P := fun p => h5.get? p.1 = some p.2 ∧ p.1 ≠ L ∧ h₀.get? p.1 = none) (hk _ (sub_at 1 rfl)) (allc (hk _ (sub_at 2 rfl)) (allc (hk _ (sub_at 3 rfl)) (allc (hk _ (sub_at 4 rfl)) (allc (hk _ (sub_at 5 rfl)) (allc (hk _ (sub_at 6 rfl)) (allc (hk _ (sub_at 7 rfl)) (allc (hk _ (sub_at 8 rfl)) (allc (hk _ (sub_at 9 rfl)) (allc (hk _ (sub_in 10 hdm rfl)) (allc (news_add (news := []) F3 (fun _ h => by cases h) hDo hDn _ (.head _)) hr)))))))))) p hp
    have hlen : els.length = (refsOf els).length := by simp [refsOf]
    refine ⟨h₀, _, _, o9, _, _, v9, JD N W R nx (ordersF N (List.range N)) due L m₀ u1 u2 o7 o6 o5 o4 o3 o2 o1 ((D, lstO (refsOf els).toArray kD) :: (els ++ tl)), srcp_list (vs := refsOf els) rfl ⟨_, hDo, rfl, _, rfl⟩ ⟨lstO (refsOf els).toArray kD, ?inD⟩, F5, N5, d9, ⟨u3, due, dl, dv, kd, o8, rfl, rfl, d8, hdv, hdl, rfl, hoff.ne (j := 8) (by decide) (by decide) _ hdm, hoff.ne (j := 9) (by decide) (by decide) _ hdm⟩, jd_off c9, ?turn, ?done⟩
    (case inD =>
      rintro i m nw ⟨u3, due, dl, dv, kd, o8, rfl, rfl, _⟩
      simp)
    (case done =>
      intro mT nw oT vT hT tkT HJ hoT FT NT
      obtain ⟨w3, du, dl2, dv2, kd2, o82, rfl, rfl, e8, hdv2, hdl2, hdu, _, _⟩ := HJ
      rw [← hlen, ← hP.length, List.take_length] at hdu
      exact hret _ _ _ dl2 dv2 o82 oT w3 e8 (hdu ▸ hdv2) FT (news_sub NT subE))
    (case turn =>
      intro iT vT IT oI oT mT nw hT tkT hiT hvT HJ hoT FT NT hIT
      obtain ⟨w3, du, dl2, dv2, kd2, o82, rfl, rfl, e8, hdv2, hdl2, hdu, n8, n9⟩ := HJ
      obtain ⟨e, he, rfl⟩ : ∃ e, els[iT]? = some e ∧ vT = .ref e.1 := by
        rw [List.getElem?_map] at hvT
        cases q : els[iT]? with
        | none => rw [q] at hvT; cases hvT
        | some e => rw [q] at hvT; exact ⟨e, rfl, (Option.some.inj hvT).symm⟩
      obtain ⟨p, hp, pv, kp, ep, hpv⟩ := paired_at hP he
      have hpm := List.mem_of_getElem? hp
      have hpp := orders_perm N _ p List.nodup_range List.length_range hpm
      have hem : (e.1, lstO pv.toArray kp) ∈ (D, lstO (refsOf els).toArray kD) :: (els ++ tl) := by
        rw [← ep]
        exact .tail _ (List.mem_append_left _ (List.mem_of_getElem? he))
      with_unfolding_all refine' dbody_c (tl := (D, lstO (refsOf els).toArray kD) :: (els ++ tl)) (p := p) (pv := pv) (kp := kp) (due := du) ?k1 ?k2 ?k3 ?k4 ?k5 ?k6 ?k7 ?k8 ?k9 ?k10 ?k11 ?k12 ?k13 ?k14 ?k15 ?k16 ?k17 ?k18 ?k19 ?k20 ?k21 ?k22 ?k23 ?_
      (case k1 => rfl)
      (case k2 => rfl)
      (case k3 => exact K0)
      (case k4 => k_asm)
      (case k5 => exact T0)
      (case k6 => exact FT)
      (case k7 => exact news_sub NT (subF hem))
      (case k8 => exact hoT)
      (case k9 => exact e8)
      (case k10 => exact d4)
      (case k11 => exact d3)
      (case k12 => exact d2)
      (case k13 => exact d1)
      (case k14 => exact LN)
      (case k15 => exact LD)
      (case k16 => exact hdv2)
      (case k17 => exact hdl2)
      (case k18 => exact hpv)
      (case k19 => exact hpp)
      (case k20 => exact c8)
      (case k21 => exact Ne.symm (hIT (L + 8, o82) (by first | exact sub_at 0 rfl | exact sub_at 1 rfl | exact sub_at 2 rfl | exact sub_at 3 rfl | exact sub_at 4 rfl | exact sub_at 5 rfl | exact sub_at 6 rfl | exact sub_at 7 rfl | exact sub_at 8 rfl | exact sub_at 9 rfl | exact sub_at 10 rfl | exact sub_at 11 rfl)))
      (case k22 => exact n8)
      (case k23 => exact c8 (e.1, lstO pv.toArray kp) hem)
      intro h8 tk8 kd8 dl8 dv8 o88 u38 e88 hdv8 F8 N8 hdl8
      refine ⟨h8, tk8, _, _, rfl, F8, news_sub N8 subG, off_but hIT rfl (hdl8.imp id fun h => h.1), ⟨_, rfl, u38, _, dl8, dv8, kd8, o88, rfl, rfl, e88, hdv8, dueStep_len hdl2, ?_, ?_, ?_⟩⟩
      · rw [List.take_succ, hp, List.foldl_append, ← hdu]; rfl
      · rcases hdl8 with rfl | h
        · exact n8
        · exact h.2.1
      · rcases hdl8 with rfl | h
        · exact n9
        · exact h.2.2))
end Mine
end
section
open PySem PySem.W PyProof.Rows PySem.Calls
set_option maxRecDepth 100000
set_option maxHeartbeats 0
namespace Mine
theorem getD_at {α : Type} {l : List α} {i : Nat} {d : α} (h : i < l.length) : l.getD i d = l[i] := by rw [List.getD_eq_getElem?_getD, List.getElem?_eq_getElem h]; rfl
section
variable {N : Nat} {W : List (List Nat)} {R : List (List Str)} {nx : List Str} (LN : LawN N W R nx)
include LN
theorem row_w {i : Nat} (hi : i < N) : (W.getD i []).Perm (List.range N) ∧ (W.getD i []).length = N := by
  obtain ⟨hw, hp⟩ := law_w LN hi
  rw [getD_at hw]
  exact ⟨hp, by rw [hp.length_eq, List.length_range]⟩
theorem w_lt {i k : Nat} (hi : i < N) (hk : k < N) : wAt W i k < N := by
  obtain ⟨hp, hl⟩ := row_w LN hi
  unfold wAt
  have hk2 : k < (W.getD i []).length := by omega
  rw [getD_at hk2]
  exact List.mem_range.mp (hp.mem_iff.mp (List.getElem_mem hk2))
theorem w_ix {i h : Nat} (hi : i < N) (hh : h < N) : ixF W i h < N ∧ wAt W i (ixF W i h) = h := by
  obtain ⟨hp, hl⟩ := row_w LN hi
  have hm : h ∈ W.getD i [] := hp.mem_iff.mpr (by simpa using hh)
  have h1 := List.idxOf_lt_length_of_mem hm
  refine ⟨by unfold ixF; omega, ?_⟩
  unfold wAt ixF
  rw [getD_at h1]
  exact List.getElem_idxOf h1
theorem ix_w {i k : Nat} (hi : i < N) (hk : k < N) : ixF W i (wAt W i k) = k := by
  obtain ⟨hp, hl⟩ := row_w LN hi
  have hnd : (W.getD i []).Nodup := hp.nodup_iff.mpr List.nodup_range
  unfold ixF wAt
  rw [getD_at (by omega)]
  exact hnd.idxOf_getElem _ _
theorem n_mem {i : Nat} (hi : i < N) : nAt nx i ∈ nx := by
  unfold nAt; rw [getD_at (by rw [LN.nl]; exact hi)]; exact List.getElem_mem _
theorem n_inj {i j : Nat} (hi : i < N) (hj : j < N) (e : nAt nx i = nAt nx j) : i = j := by
  have h1 := LN.nd.idxOf_getElem i (by rw [LN.nl]; exact hi)
  have h2 := LN.nd.idxOf_getElem j (by rw [LN.nl]; exact hj)
  unfold nAt at e
  rw [getD_at (by rw [LN.nl]; exact hi), getD_at (by rw [LN.nl]; exact hj)] at e
  rw [← h1, ← h2, e]
theorem row_r {h : Nat} (hh : h < N) : (R.getD h []).Perm nx := by
  rw [getD_at (by rw [LN.rl]; exact hh)]
  exact LN.rp _ (List.getElem_mem _)
theorem rk_inj {h i j : Nat} (hh : h < N) (hi : i < N) (hj : j < N) (e : rkF R nx h i = rkF R nx h j) : i = j := by
  have hp := row_r LN hh
  exact n_inj LN hi hj (idx_inj (hp.mem_iff.mpr (n_mem LN hi)) (hp.mem_iff.mpr (n_mem LN hj)) e)
theorem q_mem {T : List Nat} {h i : Nat} (hi : i < N) : nAt nx i ∈ queueX N W nx T h ↔ wAt W i (T.getD i 0) = h := by
  unfold queueX queueI
  constructor
  · intro hm
    obtain ⟨j, hj, e⟩ := List.mem_map.mp hm
    obtain ⟨hj1, hj2⟩ := List.mem_filter.mp hj
    have := n_inj LN (List.mem_range.mp hj1) hi e
    subst this
    simpa using hj2
  · intro e
    exact List.mem_map.mpr ⟨i, List.mem_filter.mpr ⟨List.mem_range.mpr hi, by simpa using e⟩, rfl⟩
theorem q_of {T : List Nat} {h : Nat} {x : Str} (hx : x ∈ queueX N W nx T h) : ∃ i, i < N ∧ x = nAt nx i ∧ wAt W i (T.getD i 0) = h := by
  unfold queueX queueI at hx
  obtain ⟨j, hj, e⟩ := List.mem_map.mp hx
  obtain ⟨hj1, hj2⟩ := List.mem_filter.mp hj
  exact ⟨j, List.mem_range.mp hj1, e.symm, by simpa using hj2⟩
/-- the best of a host's queue -/
theorem best_of {T : List Nat} {gx : List Str} (G : GoneIs N W R nx T N gx) {h i : Nat} (hh : h < N) (hi : i < N) (e : wAt W i (T.getD i 0) = h) :
    ∃ b, b < N ∧ wAt W b (T.getD b 0) = h ∧ (∀ k, k < N → wAt W k (T.getD k 0) = h → rkF R nx h b ≤ rkF R nx h k) ∧ ∀ k, k < N → wAt W k (T.getD k 0) = h → (nAt nx k ∈ gx ↔ k ≠ b) := by
  obtain ⟨f, hf, rfl⟩ := G
  have hq : queueX N W nx T h ≠ [] := fun e2 => by
    have := (q_mem LN hi (T := T) (h := h)).mpr e
    rw [e2] at this; cases this
  obtain ⟨hb, hmin⟩ := hf h hh hq
  obtain ⟨b, hbN, eb, hbw⟩ := q_of LN hb
  refine ⟨b, hbN, hbw, fun k hk ek => ?_, fun k hk ek => ?_⟩
  · have := hmin _ ((q_mem LN hk).mpr ek)
    rw [eb] at this
    exact this
  · constructor
    · intro hm ekb
      subst ekb
      obtain ⟨h2, hh2, hm2⟩ := List.mem_flatMap.mp hm
      obtain ⟨hm3, hm4⟩ := List.mem_filter.mp hm2
      have e2 := (q_mem LN hk).mp hm3
      rw [ek] at e2
      subst e2
      simp at hm4
      exact hm4 eb.symm
    · intro hne
      refine List.mem_flatMap.mpr ⟨h, List.mem_range.mpr hh, List.mem_filter.mpr ⟨(q_mem LN hk).mpr ek, ?_⟩⟩
      simp only [decide_eq_true_eq]
      rw [eb]
      exact fun e2 => hne (n_inj LN hk hbN e2)
/-- who is refused -/
theorem gone_iff {T : List Nat} {gx : List Str} (G : GoneIs N W R nx T N gx) (hTN : ∀ i, i < N → T.getD i 0 < N) {i : Nat} (hi : i < N) :
    nAt nx i ∈ gx ↔ ∃ j, j < N ∧ wAt W j (T.getD j 0) = wAt W i (T.getD i 0) ∧ rkF R nx (wAt W i (T.getD i 0)) j < rkF R nx (wAt W i (T.getD i 0)) i := by
  have hh := w_lt LN hi (hTN i hi)
  obtain ⟨b, hb, hbw, hmin, hgo⟩ := best_of LN G hh hi rfl
  rw [hgo i hi rfl]
  constructor
  · intro hne
    refine ⟨b, hb, hbw, ?_⟩
    have h1 := hmin i hi rfl
    have h2 : rkF R nx (wAt W i (T.getD i 0)) b ≠ rkF R nx (wAt W i (T.getD i 0)) i := fun e => hne (rk_inj LN hh hb hi e).symm
    omega
  · rintro ⟨j, hj, hjw, hlt⟩ e
    subst e
    have := hmin j hj hjw
    omega
end
/-- what holds between the rounds -/
structure RInv (N : Nat) (W : List (List Nat)) (R : List (List Str)) (nx : List Str) (T : List Nat) : Prop where
  le : ∀ i, i < N → T.getD i 0 ≤ N
  one : ∀ p : List Nat, p.Perm (List.range N) → tornL N W R nx p = [] → ∀ i, i < N → T.getD i 0 ≤ ixF W i (p.getD i 0)
  two : ∀ i, i < N → ∀ k, k < T.getD i 0 → ∃ j, j < N ∧ T.getD j 0 < N ∧ wAt W j (T.getD j 0) = wAt W i k ∧ rkF R nx (wAt W i k) j < rkF R nx (wAt W i k) i
theorem next_at {N : Nat} {nx gx : List Str} {T : List Nat} {i : Nat} (hi : i < N) : (nextT N nx T gx).getD i 0 = if nAt nx i ∈ gx then T.getD i 0 + 1 else T.getD i 0 := by
  unfold nextT
  rw [getD_at (by simpa using hi)]
  simp
section
variable {N : Nat} {W : List (List Nat)} {R : List (List Str)} {nx : List Str} (LN : LawN N W R nx)
include LN
theorem torn_nil {p : List Nat} (hp : p.Perm (List.range N)) : tornL N W R nx p = [] ↔ ∀ i, i < N → ∀ h, h ∈ (W.getD i []).take (ixF W i (p.getD i 0)) → ¬ rkF R nx h i < rkF R nx h (p.idxOf h) := by
  unfold tornL tornRow
  rw [List.flatMap_eq_nil_iff]
  constructor
  · intro h i hi x hx hlt
    have := h i (List.mem_range.mpr hi)
    rw [List.map_eq_nil_iff, List.filter_eq_nil_iff] at this
    exact this x hx (by simpa using hlt)
  · intro h i hi
    rw [List.map_eq_nil_iff, List.filter_eq_nil_iff]
    intro x hx hlt
    exact h i (List.mem_range.mp hi) x hx (by simpa using hlt)
theorem take_mem {i k m : Nat} (hi : i < N) (hk : k < m) (hm : m ≤ N) : wAt W i k ∈ (W.getD i []).take m := by
  obtain ⟨hp, hl⟩ := row_w LN hi
  have hk2 : k < (W.getD i []).length := by omega
  unfold wAt
  rw [getD_at (l := W.getD i []) hk2]
  rw [List.mem_iff_getElem?]
  exact ⟨k, by rw [List.getElem?_take_of_lt hk, List.getElem?_eq_getElem hk2]⟩
theorem take_of {i h m : Nat} (hi : i < N) (hm : m ≤ N) (hx : h ∈ (W.getD i []).take m) : ∃ k, k < m ∧ wAt W i k = h := by
  obtain ⟨hp, hl⟩ := row_w LN hi
  obtain ⟨k, hk⟩ := List.mem_iff_getElem?.mp hx
  have hkm : k < m := by
    have := (List.getElem?_eq_some_iff.mp hk).1
    rw [List.length_take] at this; omega
  rw [List.getElem?_take_of_lt hkm] at hk
  exact ⟨k, hkm, by unfold wAt; rw [List.getD_eq_getElem?_getD (l := W.getD i []), hk]; rfl⟩
omit LN in
theorem perm_at {p : List Nat} (hp : p.Perm (List.range N)) {i : Nat} (hi : i < N) : p.getD i 0 < N ∧ p.idxOf (p.getD i 0) = i := by
  have hl : p.length = N := by rw [hp.length_eq, List.length_range]
  have hnd : p.Nodup := hp.nodup_iff.mpr List.nodup_range
  rw [getD_at (by omega)]
  exact ⟨by simpa using hp.mem_iff.mp (List.getElem_mem _), hnd.idxOf_getElem _ _⟩
theorem rinv_step {T : List Nat} {gx : List Str} (I : RInv N W R nx T) (G : GoneIs N W R nx T N gx) (hTN : ∀ i, i < N → T.getD i 0 < N) : RInv N W R nx (nextT N nx T gx) := by
  refine ⟨fun i hi => ?_, fun p hp hst i hi => ?_, fun i hi k hk => ?_⟩
  · rw [next_at hi]
    have := hTN i hi
    split <;> omega
  · rw [next_at hi]
    have h1 := I.one p hp hst i hi
    obtain ⟨hpi, hpx⟩ := perm_at hp hi
    split
    · rename_i hm
      obtain ⟨j, hj, hjw, hlt⟩ := (gone_iff LN G hTN hi).mp hm
      have hne : T.getD i 0 ≠ ixF W i (p.getD i 0) := fun e => by
        have ew : wAt W i (T.getD i 0) = p.getD i 0 := by rw [e]; exact (w_ix LN hi hpi).2
        rw [ew] at hjw hlt
        obtain ⟨hpj, hpxj⟩ := perm_at hp hj
        have h2 := I.one p hp hst j hj
        have hne2 : T.getD j 0 ≠ ixF W j (p.getD j 0) := fun e2 => by
          have ew2 : wAt W j (T.getD j 0) = p.getD j 0 := by rw [e2]; exact (w_ix LN hj hpj).2
          have : p.getD j 0 = p.getD i 0 := by rw [← ew2, hjw]
          have : j = i := by rw [← hpxj, this, hpx]
          subst this
          omega
        have hixj := (w_ix LN hj hpj).1
        refine (torn_nil LN hp).mp hst j hj (p.getD i 0) ?_ ?_
        · have := take_mem LN hj (k := T.getD j 0) (m := ixF W j (p.getD j 0)) (by omega) (by omega)
          rwa [hjw] at this
        · rw [hpx]; exact hlt
      omega
    · exact h1
  · rw [next_at hi] at hk
    have key : ∀ h, h < N → ∀ j, j < N → wAt W j (T.getD j 0) = h → rkF R nx h j < rkF R nx h i → ∃ j, j < N ∧ (nextT N nx T gx).getD j 0 < N ∧ wAt W j ((nextT N nx T gx).getD j 0) = h ∧ rkF R nx h j < rkF R nx h i := by
      intro h hh j hj hjw hlt
      obtain ⟨b, hb, hbw, hmin, hgo⟩ := best_of LN G hh hj hjw
      have hng : ¬ nAt nx b ∈ gx := fun hm => (hgo b hb hbw).mp hm rfl
      refine ⟨b, hb, ?_, ?_, ?_⟩
      · rw [next_at hb, if_neg hng]; exact hTN b hb
      · rw [next_at hb, if_neg hng]; exact hbw
      · have := hmin j hj hjw; omega
    by_cases hkT : k < T.getD i 0
    · obtain ⟨j, hj, hjN, hjw, hlt⟩ := I.two i hi k hkT
      have hkN : k < N := by have := hTN i hi; omega
      exact key _ (w_lt LN hi hkN) j hj hjw hlt
    · split at hk
      · rename_i hm
        have e : k = T.getD i 0 := by omega
        subst e
        obtain ⟨j, hj, hjw, hlt⟩ := (gone_iff LN G hTN hi).mp hm
        exact key _ (w_lt LN hi (hTN i hi)) j hj hjw hlt
      · omega
omit LN in
theorem nodup_len : ∀ {l l' : List Nat}, l.Nodup → (∀ x ∈ l, x ∈ l') → l.length ≤ l'.length
  | [], _, _, _ => Nat.zero_le _
  | x :: l, l', hnd, hs => by
    have hx := hs x (.head _)
    have hnd2 := List.nodup_cons.mp hnd
    have ih := nodup_len (l := l) (l' := l'.erase x) hnd2.2 fun y hy => by
      have hne : y ≠ x := fun e => hnd2.1 (e ▸ hy)
      exact (List.mem_erase_of_ne hne).mpr (hs y (.tail _ hy))
    rw [List.length_erase_of_mem hx] at ih
    have : 0 < l'.length := List.length_pos_of_mem hx
    rw [List.length_cons]; omega
theorem never {T : List Nat} (I : RInv N W R nx T) {i : Nat} (hi : i < N) : T.getD i 0 < N := by
  have h1 := I.le i hi
  by_cases e : T.getD i 0 = N
  · exfalso
    have hj : ∀ h, h < N → ∃ j, j < N ∧ j ≠ i ∧ wAt W j (T.getD j 0) = h := fun h hh => by
      obtain ⟨hx, hxw⟩ := w_ix LN hi hh
      obtain ⟨j, hj, hjN, hjw, hlt⟩ := I.two i hi (ixF W i h) (by omega)
      rw [hxw] at hjw hlt
      exact ⟨j, hj, fun e2 => by subst e2; omega, hjw⟩
    have : ∃ f : Nat → Nat, ∀ h, h < N → f h < N ∧ f h ≠ i ∧ wAt W (f h) (T.getD (f h) 0) = h :=
      ⟨fun h => if hh : h < N then Classical.choose (hj h hh) else 0, fun h hh => by simp only [dif_pos hh]; exact Classical.choose_spec (hj h hh)⟩
    obtain ⟨f, hf⟩ := this
    have hnd : ((List.range N).map f).Nodup := by
      rw [List.nodup_iff_pairwise_ne, List.pairwise_map]
      refine (List.nodup_iff_pairwise_ne.mp (List.nodup_range (n := N))).imp_of_mem fun {a b} ha hb hab e2 => hab ?_
      rw [← (hf a (List.mem_range.mp ha)).2.2, ← (hf b (List.mem_range.mp hb)).2.2, e2]
    have hlen := nodup_len hnd (l' := (List.range N).erase i) fun x hx => by
      obtain ⟨h, hh, rfl⟩ := List.mem_map.mp hx
      have := hf h (List.mem_range.mp hh)
      exact (List.mem_erase_of_ne this.2.1).mpr (List.mem_range.mpr this.1)
    rw [List.length_map, List.length_range, List.length_erase_of_mem (List.mem_range.mpr hi), List.length_range] at hlen
    omega
  · omega
/-- between the rounds, with what is left to go -/
def PIw (N : Nat) (W : List (List Nat)) (R : List (List Str)) (nx : List Str) (T : List Nat) (gx : List Str) (n : Nat) : Prop :=
  RInv N W R nx T ∧ (gx = [] → ∀ i j, i < N → j < N → wAt W i (T.getD i 0) = wAt W j (T.getD j 0) → i = j) ∧ n = if gx = [] then 0 else 1 + ((List.range N).map fun i => N - T.getD i 0).sum
omit LN in
theorem sum_le {f g : Nat → Nat} : ∀ {l : List Nat}, (∀ i ∈ l, f i ≤ g i) → (l.map f).sum ≤ (l.map g).sum
  | [], _ => Nat.le_refl _
  | x :: l, h => by
    have := sum_le (f := f) (g := g) (l := l) fun i hi => h i (.tail _ hi)
    have h1 := h x (.head _)
    simp only [List.map_cons, List.sum_cons]
    omega
omit LN in
theorem sum_lt {f g : Nat → Nat} {x : Nat} : ∀ {l : List Nat}, (∀ i ∈ l, f i ≤ g i) → x ∈ l → f x < g x → (l.map f).sum < (l.map g).sum
  | y :: l, h, hx, hlt => by
    have h1 := h y (.head _)
    simp only [List.map_cons, List.sum_cons]
    rcases List.mem_cons.mp hx with rfl | hx
    · have := sum_le (f := f) (g := g) (l := l) fun i hi => h i (.tail _ hi)
      omega
    · have := sum_lt (f := f) (g := g) (l := l) (fun i hi => h i (.tail _ hi)) hx hlt
      omega
theorem piw_zero : PIw N W R nx (List.replicate N 0) nx (1 + ((List.range N).map fun i => N - (List.replicate N 0).getD i 0).sum) := by
  have h0 : ∀ i, (List.replicate N 0).getD i 0 = 0 := fun i => by
    rw [List.getD_eq_getElem?_getD, List.getElem?_replicate]
    split <;> rfl
  have hne : nx ≠ [] := fun e => by have := LN.nl; rw [e] at this; have := LN.n2; simp at *; omega
  refine ⟨⟨fun i _ => by rw [h0]; exact Nat.zero_le _, fun p _ _ i _ => by rw [h0]; exact Nat.zero_le _, fun i _ k hk => by rw [h0] at hk; omega⟩, fun e => absurd e hne, ?_⟩
  rw [if_neg hne]
theorem piw_step {T : List Nat} {gx gx' : List Str} {n : Nat} (P : PIw N W R nx T gx n) (hg : gx ≠ []) (hTl : T.length = N) (hTx : ∀ x ∈ T, x < N) (G : GoneIs N W R nx T N gx') : ∃ m, m < n ∧ PIw N W R nx (nextT N nx T gx') gx' m := by
  obtain ⟨I, _, hn⟩ := P
  rw [if_neg hg] at hn
  have hTN : ∀ i, i < N → T.getD i 0 < N := fun i hi => by
    rw [getD_at (by omega)]
    exact hTx _ (List.getElem_mem _)
  have I' := rinv_step LN I G hTN
  refine ⟨if gx' = [] then 0 else 1 + ((List.range N).map fun i => N - (nextT N nx T gx').getD i 0).sum, ?_, I', fun e i j hi hj hij => ?_, rfl⟩
  · split
    · omega
    · rename_i hne
      obtain ⟨x, hx⟩ := List.exists_mem_of_ne_nil _ hne
      obtain ⟨i, hi, rfl⟩ : ∃ i, i < N ∧ x = nAt nx i := by
        obtain ⟨f, _, rfl⟩ := id G
        obtain ⟨h, _, hx⟩ := List.mem_flatMap.mp hx
        obtain ⟨i, hi, e, _⟩ := q_of LN (List.mem_filter.mp hx).1
        exact ⟨i, hi, e⟩
      have := sum_lt (f := fun i => N - (nextT N nx T gx').getD i 0) (g := fun i => N - T.getD i 0) (l := List.range N) (x := i) (fun k hk => by
        have hk := List.mem_range.mp hk
        simp only [next_at hk]
        split <;> omega) (List.mem_range.mpr hi) (by
        simp only [next_at hi, if_pos hx]
        have := hTN i hi
        omega)
      omega
  · rw [next_at hi, next_at hj] at hij
    rw [e] at hij
    simp only [List.not_mem_nil, if_false] at hij
    have no : ∀ k, k < N → ¬ ∃ j, j < N ∧ wAt W j (T.getD j 0) = wAt W k (T.getD k 0) ∧ rkF R nx (wAt W k (T.getD k 0)) j < rkF R nx (wAt W k (T.getD k 0)) k := fun k hk hx => by
      have := (gone_iff LN G hTN hk).mpr hx
      rw [e] at this; cases this
    have h1 : ¬ rkF R nx (wAt W i (T.getD i 0)) j < rkF R nx (wAt W i (T.getD i 0)) i := fun hlt => no i hi ⟨j, hj, hij.symm, hlt⟩
    have h2 : ¬ rkF R nx (wAt W i (T.getD i 0)) i < rkF R nx (wAt W i (T.getD i 0)) j := fun hlt => no j hj ⟨i, hi, hij, by rw [← hij]; exact hlt⟩
    exact rk_inj LN (w_lt LN hi (hTN i hi)) hi hj (by omega)
omit LN in
theorem orders_all : ∀ (n : Nat) (xs p : List Nat), xs.Nodup → xs.length = n → p.Perm xs → p ∈ ordersF n xs
  | 0, xs, p, _, hl, h => by
    have : xs = [] := List.eq_nil_of_length_eq_zero hl
    subst this
    rw [h.eq_nil]
    simp [ordersF]
  | n + 1, xs, p, hnd, hl, h => by
    rcases p with _ | ⟨x, q⟩
    · have := h.length_eq; simp at this; omega
    · have hx : x ∈ xs := h.mem_iff.mp (.head _)
      unfold ordersF
      refine List.mem_flatMap.mpr ⟨x, hx, List.mem_map.mpr ⟨q, ?_, rfl⟩⟩
      rw [← hnd.erase_eq_filter x]
      have hle : (xs.erase x).length = n := by rw [List.length_erase_of_mem hx, hl]; rfl
      exact orders_all n _ q (hnd.erase x) hle ((List.perm_cons x).mp (h.trans (List.perm_cons_erase hx)))
omit LN in
theorem perm_of {l l' : List Nat} (hnd : l.Nodup) (hs : ∀ x ∈ l, x ∈ l') (hl : l'.length ≤ l.length) : l.Perm l' := by
  induction l generalizing l' with
  | nil =>
    have : l' = [] := List.eq_nil_of_length_eq_zero (by simpa using hl)
    rw [this]
  | cons x l ih =>
    have hnd2 := List.nodup_cons.mp hnd
    have hx := hs x (.head _)
    refine (List.Perm.cons x (ih hnd2.2 (fun y hy => ?_) ?_)).trans (List.perm_cons_erase hx).symm
    · have hne : y ≠ x := fun e => hnd2.1 (e ▸ hy)
      exact (List.mem_erase_of_ne hne).mpr (hs y (.tail _ hy))
    · rw [List.length_erase_of_mem hx]
      rw [List.length_cons] at hl
      omega
omit LN in
theorem fold_due {i v : Nat} (hi : i < N) : ∀ (ps : List (List Nat)) (due : List Nat), due.length = N → (ps.foldl (dueStep N W R nx) due).length = N ∧
    ((∀ p ∈ ps, tornL N W R nx p = [] → v ≤ ixF W i (p.getD i 0)) → v ≤ due.getD i 0 → v ≤ (ps.foldl (dueStep N W R nx) due).getD i 0) ∧ (ps.foldl (dueStep N W R nx) due).getD i 0 ≤ due.getD i 0 ∧
    ∀ p ∈ ps, tornL N W R nx p = [] → (ps.foldl (dueStep N W R nx) due).getD i 0 ≤ ixF W i (p.getD i 0)
  | [], due, hl => ⟨hl, fun _ h => h, Nat.le_refl _, fun p hp => nomatch hp⟩
  | q :: ps, due, hl => by
    rw [List.foldl_cons]
    have hs : (dueStep N W R nx due q).getD i 0 = if tornL N W R nx q = [] then min (due.getD i 0) (ixF W i (q.getD i 0)) else due.getD i 0 := by
      unfold dueStep
      split
      · unfold nextDue
        rw [getD_at (by simpa using hi)]
        simp
      · rfl
    obtain ⟨h1, h2, h3, h4⟩ := fold_due (v := v) hi ps (dueStep N W R nx due q) (dueStep_len hl)
    refine ⟨h1, fun hp hv => h2 (fun p hp2 => hp p (.tail _ hp2)) ?_, ?_, fun p hp ht => ?_⟩
    · rw [hs]
      split
      · rename_i ht
        have := hp q (.head _) ht
        omega
      · exact hv
    · rw [hs] at h3
      split at h3 <;> omega
    · rcases List.mem_cons.mp hp with rfl | hp
      · rw [hs, if_pos ht] at h3
        omega
      · exact h4 p hp ht
/-- the rounds end where the best dealing stands -/
theorem law_end {T : List Nat} {gx : List Str} {n : Nat} (P : PIw N W R nx T gx n) (hTl : T.length = N) (he : gx = [] ∨ ∃ x ∈ T, ¬ x < N) : T = (ordersF N (List.range N)).foldl (dueStep N W R nx) (List.replicate N N) := by
  obtain ⟨I, hc, _⟩ := P
  have hTN : ∀ i, i < N → T.getD i 0 < N := fun i hi => never LN I hi
  have hg : gx = [] := he.elim id fun ⟨x, hx, hn⟩ => by
    obtain ⟨i, hi, rfl⟩ := List.getElem_of_mem hx
    have := hTN i (by omega)
    rw [getD_at hi] at this
    exact absurd this hn
  have hc := hc hg
  have hd0 : ∀ i, i < N → (((List.range N).map fun i => wAt W i (T.getD i 0)).getD i 0) = wAt W i (T.getD i 0) := fun i hi => by
    rw [getD_at (by simpa using hi)]; simp
  obtain ⟨d, hd⟩ : ∃ d, d = (List.range N).map fun i => wAt W i (T.getD i 0) := ⟨_, rfl⟩
  rw [← hd] at hd0
  have hnd : d.Nodup := by
    rw [hd, List.nodup_iff_pairwise_ne, List.pairwise_map]
    exact (List.nodup_iff_pairwise_ne.mp (List.nodup_range (n := N))).imp_of_mem fun {a b} ha hb hab e2 => hab (hc a b (List.mem_range.mp ha) (List.mem_range.mp hb) e2)
  have hdp : d.Perm (List.range N) := perm_of hnd (fun x hx => by
    rw [hd] at hx
    obtain ⟨i, hi, rfl⟩ := List.mem_map.mp hx
    have hi := List.mem_range.mp hi
    exact List.mem_range.mpr (w_lt LN hi (hTN i hi))) (by rw [hd]; simp)
  have hds : tornL N W R nx d = [] := (torn_nil LN hdp).mpr fun i hi h hh hlt => by
    rw [hd0 i hi, ix_w LN hi (hTN i hi)] at hh
    have hTi := hTN i hi
    obtain ⟨k, hk, rfl⟩ := take_of LN hi (by omega) hh
    obtain ⟨j, hj, hjN, hjw, hlt2⟩ := I.two i hi k hk
    have : d.idxOf (wAt W i k) = j := by
      have := (perm_at hdp hj).2
      rwa [hd0 j hj, hjw] at this
    rw [this] at hlt
    omega
  refine List.ext_getElem ?_ fun i h1 h2 => ?_
  · rw [hTl]
    exact ((fold_due (v := 0) (i := 0) (by have := LN.n2; omega) _ _ (by simp)).1).symm
  · have hi : i < N := by omega
    have h0 : (List.replicate N N).getD i 0 = N := by rw [getD_at (by simpa using hi)]; simp
    obtain ⟨f1, f2, f3, f4⟩ := fold_due (W := W) (R := R) (nx := nx) (v := T.getD i 0) hi (ordersF N (List.range N)) (List.replicate N N) (by simp)
    have g1 := f2 (fun p hp ht => I.one p (orders_perm N _ p List.nodup_range List.length_range hp) ht i hi) (by rw [h0]; exact I.le i hi)
    have g2 := f4 d (orders_all N _ d List.nodup_range List.length_range hdp) hds
    rw [hd0 i hi, ix_w LN hi (hTN i hi)] at g2
    rw [getD_at h1] at g1 g2
    rw [getD_at h2] at g1 g2
    omega
end
end Mine
end
section
open PySem PySem.W PyProof.Rows PySem.Calls
set_option maxRecDepth 100000
set_option maxHeartbeats 0
namespace Mine
theorem ints_n {vs : List Value} : ∀ {ns : List Nat}, IntsAre vs (ns.map fun (n : Nat) => (n : Int)) → IntsN vs ns := by
  induction vs with
  | nil => intro ns h; cases ns with
    | nil => exact ⟨rfl, by simp⟩
    | cons n ns => cases h
  | cons v vs ih => intro ns h; cases ns with
    | nil => cases h
    | cons n ns => cases h with
      | cons _ t h2 => exact ints_cons (ih h2)
theorem rep_flat {α : Type} {x : α} : ∀ n : Nat, (List.replicate n [x]).flatten = List.replicate n x
  | 0 => rfl
  | n + 1 => by rw [List.replicate_succ, List.flatten_cons, rep_flat n]; rfl
theorem reps {N a : Nat} {vs : List Value} (h : IntsAre vs (List.replicate ((N : Int)).toNat [(a : Int)]).flatten) : IntsN vs (List.replicate N a) := by
  refine ints_n ?_
  rw [rep_flat, Int.toNat_natCast] at h
  rw [List.map_replicate]
  exact h
theorem offR {L D : Addr} {o : Obj} {tl : List (Addr × Obj)} (hoff : OffC L tl) (hD : @LT.lt Nat _ (L + 9) D) : OffC L ((D, o) :: tl) :=
  OffC.cons hoff (far_ne hD 1 rfl) (far_ne hD 2 rfl) (far_ne hD 3 rfl) (far_ne hD 4 rfl) (far_ne hD 5 rfl) (far_ne hD 6 rfl) (far_ne hD 7 rfl) (far_ne hD 8 rfl) (far_ne hD 9 rfl)
theorem jwh_start {N : Nat} {W : List (List Nat)} {R : List (List Str)} {nx : List Str} {PI : List Nat → List Str → Nat → Prop} {h₀ : Heap} {L : Addr} {m : Str → Option Value} {tl : List (Addr × Obj)} {o9 o8 o7 o6 o5 o4 o3 o2 o1 : Obj} {s : Shared} {n : Nat} {D l : Addr} {ol : Obj} {uv : List Value} {ku : Nat}
    {nl wl rl hl : Addr} {nv wv rv hv : List Value} {kn kw kr kh : Nat} {v7 : Option Value}
    (F : Fr h₀ L s.heap m) (Nw : News h₀ L s.heap ((D, lstO uv.toArray ku) :: (l, ol) :: (L + 9, o9) :: (L + 8, o8) :: (L + 7, o7) :: (L + 6, o6) :: (L + 5, o5) :: (L + 4, o4) :: (L + 3, o3) :: (L + 2, o2) :: (L + 1, o1) :: tl))
    (hD : @LT.lt Nat _ (L + 9) D) (hoff : OffC L tl) (LF : LawT tl W R nx nl wl rl hl nv wv rv hv kn kw kr kh) (d7 : o7.data = .cell v7) (d6 : o6.data = .cell (some (.ref nl))) (d5 : o5.data = .cell (some (.ref D)))
    (hu : IntsN uv (List.replicate N 0)) (hz : nx.length ≤ 100) (hp : PI (List.replicate N 0) nx n) :
    JWh N W R nx PI h₀ L m ((D, lstO uv.toArray ku) :: tl) o9 o8 o4 o3 o2 o1 s n s := by
  refine ⟨s.heap, s.toks, m s_queue, m s_best, m s_torn, v7, o7, o6, o5, List.replicate N 0, nx, nv, uv, nl, D, kn, ku, (D, lstO uv.toArray ku) :: tl, rfl, fr_map3 F, news_sub Nw fun p hp => ?_, fun p hp => hp, ?_, d7, d6, d5, .tail _ LF.nm, .head _, LF.sn, by rw [StrsAre.length LF.sn]; exact hz, hu, by simp, hp⟩
  · exact sub_of [2, 3, 4, 5, 6, 7, 8, 9, 10, 0] 11 rfl p hp
  · exact offR hoff hD
theorem subR {d l a9 a8 a7 a6 a5 a4 a3 a2 a1 : Addr × Obj} {t : List (Addr × Obj)} : ∀ p ∈ a9 :: a8 :: a7 :: a6 :: a5 :: a4 :: a3 :: a2 :: a1 :: d :: t, p ∈ d :: l :: a9 :: a8 :: a7 :: a6 :: a5 :: a4 :: a3 :: a2 :: a1 :: t := sub_of [2, 3, 4, 5, 6, 7, 8, 9, 10, 0] 11 rfl
local macro_rules | `(tactic| k_room) => `(tactic| ktr_room)
local macro_rules | `(tactic| k_all) => `(tactic| assumption)
local macro_rules | `(tactic| k_get) => `(tactic| assumption)
local macro_rules | `(tactic| walk_at "exec While") => `(tactic| (k_here; refine hold_ ?_))
local macro_rules | `(tactic| walk_at "exec For") => `(tactic| (k_here; refine hold_ ?_))
local macro_rules | `(tactic| walk_at "binaryOp Mult") => `(tactic| (k_here; refine hold_ ?_))
local macro_rules | `(tactic| walk_at "compareOp Eq") => `(tactic| (k_here; refine hold_ ?_))
theorem rest2_c {w : World} {fA : Addr} {cD : Value} {loose : List Str} {mean : ExcName → Option Value} {mg mb : Str → Option Value} {h₀ base : Heap} {L : Addr} {cs : Scope} {s : Shared} {m : Str → Option Value} {v5 v6 v7 v8 v9 : Option Value}
  {ss : List Stmt}
  {tl : List (Addr × Obj)} {N : Nat} {W : List (List Nat)} {R : List (List Str)} {nx : List Str} {nl wl rl hl : Addr} {nv wv rv hv : List Value} {kn kw kr kh : Nat} {o1 o2 o3 o4 o5 o6 o7 o8 o9 : Obj} {t1 : Tok}
  {E : Value → Shared → Prop} {Q : Flow → Shared → Prop}
  (hsc : lawSc = cs) (hss : nthS 6 lawB = ss) (K0 : Below callerA base [] h₀) (X : (hd.heap_39 w.params).In h₀) (T0 : Top topProg loose mean mg mb h₀)
  (F : Fr h₀ L s.heap m) (hho : HostsIs m hl)
  (Nw : News h₀ L s.heap ((L + 9, o9) :: (L + 8, o8) :: (L + 7, o7) :: (L + 6, o6) :: (L + 5, o5) :: (L + 4, o4) :: (L + 3, o3) :: (L + 2, o2) :: (L + 1, o1) :: tl))
  (d9 : o9.data = .cell v9) (d8 : o8.data = .cell v8) (d7 : o7.data = .cell v7) (d6 : o6.data = .cell v6) (d5 : o5.data = .cell v5) (d4 : o4.data = .cell (some (.ref rl))) (d3 : o3.data = .cell (some (.ref wl))) (d2 : o2.data = .cell (some (.ref nl))) (d1 : o1.data = .cell (some (.int (N : Int) t1)))
  (LN : LawN N W R nx) (LF : LawT tl W R nx nl wl rl hl nv wv rv hv kn kw kr kh) (hoff : OffC L tl)
  (hret : ∀ (h' : Heap) (tk' : Nat) (m' : Str → Option Value), Fr h₀ L h' m' → (∀ p ∈ tl, h'.get? p.1 = some p.2) → Q (.ret (.bool true)) { s with heap := h', toks := tk' })
  (hE : PassesOwn (model Challenge.rw_ij0195_02.row.prog w) (callerA.deeper (envOfC (Str.ofString "law") cs L fA cD)) (envOfC (Str.ofString "law") cs L fA cD) E) :
  wpAny (model Challenge.rw_ij0195_02.row.prog w) (callerA.deeper (envOfC (Str.ofString "law") cs L fA cD)) (execs ss (envOfC (Str.ofString "law") cs L fA cD)) Q E s := by
  w_strict (
    (revert X; k_fill; intro X)
    have hs1 : lawSt = .FunctionDef _ _ _ _ _ _ _ _ _ _ :: _ := rfl
    unfold lawSc at hsc
    rw [hs1] at hsc
    dsimp only [scOf] at hsc
    subst hsc
    have hb1 : nthS 6 lawB = [_, _, _, _, _, _] := rfl
    rw [hb1] at hss
    subst hss
    clear hs1 hb1
    have hN2 := LN.n2
    have hN4 := LN.n4
    have c5 := hoff.ne (j := 5) (by decide) (by decide)
    have c6 := hoff.ne (j := 6) (by decide) (by decide)
    have c8 := hoff.ne (j := 8) (by decide) (by decide)
    k_steps
    refine of_hold ?_
    with_reducible rename Fr _ _ _ _ => F1
    with_reducible rename News _ _ _ _ => N1
    with_reducible rename IntsAre _ _ => hI
    with_reducible rename _ ∧ _ => lD
    refine while_c (PI := PIw N W R nx) rfl rfl K0 (by k_asm) T0 hho d4 d3 d2 d1 LN (LF.mono fun p hp => .tail _ hp) (fun T gx n gx' P hg hTl hTx G => piw_step LN P hg hTl hTx G) (jwh_start F1 N1 lD.2.1 hoff LF d7 (by assumption) (by assumption) (reps hI) (by rw [LN.nl] at *; omega) (piw_zero LN)) ?_ hE
    intro h2 tk2 u1 u2 u3 w7 p7 p6 p5 T gx uv ul ku n2 tlX F2 N2 hsub2 hoff2 e7 e5 hum hu hTl hpi hend
    clear F1 N1
    have hT := law_end LN hpi hTl hend
    have c8' := hoff2.ne (j := 8) (by decide) (by decide)
    k_steps
    refine of_hold ?_
    with_reducible rename Fr _ _ _ _ => F3
    with_reducible rename News _ _ _ _ => N3
    with_reducible rename IntsAre _ _ => hI2
    with_reducible rename _ ∧ _ => lD2
    refine deals_c rfl rfl K0 (by k_asm) T0 F3 (news_sub N3 subR) d9 (by assumption) d4 d3 d2 d1 (.head _) LN ((LF.mono fun p hp => .tail _ hp).mono fun p hp => .tail _ (hsub2 p hp)) (reps hI2) (by simp) (offR hoff2 lD2.2.1) ?_ hE
    intro h4 tk4 kd4 dl4 dv4 o84 o94 u34 e84 hdv4 F4 N4
    clear F3 N3
    rw [← hT] at hdv4
    k_steps
    refine of_hold ?_
    with_reducible rename Fr _ _ _ _ => F5
    with_reducible rename News _ _ _ _ => N5
    refine ke_eq_ints ⟨_, (N5 (ul, lstO uv.toArray ku) (by first | exact sub_in 9 hum rfl | exact sub_in 10 hum rfl | exact sub_in 11 hum rfl | exact sub_in 12 hum rfl | exact sub_in 13 hum rfl)).1, rfl, _, rfl⟩ ⟨_, (N5 (dl4, lstO dv4.toArray kd4) (by first | exact sub_at 0 rfl | exact sub_at 1 rfl | exact sub_at 2 rfl | exact sub_at 3 rfl | exact sub_at 4 rfl | exact sub_at 5 rfl | exact sub_at 6 rfl | exact sub_at 7 rfl | exact sub_at 8 rfl | exact sub_at 9 rfl | exact sub_at 10 rfl | exact sub_at 11 rfl)).1, rfl, _, rfl⟩ (ints_are hu) (ints_are hdv4) (show callerA.units + 3 + 64 < cLine from by decide) ?_
    rw [decide_eq_true rfl]
    k_steps
    exact hret _ _ _ F5 fun p hp => (N5 p (by first | exact sub_in 9 (hsub2 p (.tail _ hp)) rfl | exact sub_in 10 (hsub2 p (.tail _ hp)) rfl | exact sub_in 11 (hsub2 p (.tail _ hp)) rfl | exact sub_in 12 (hsub2 p (.tail _ hp)) rfl | exact sub_in 13 (hsub2 p (.tail _ hp)) rfl)).1)
end Mine
end
section
open PySem PySem.W PyProof.Rows PySem.Calls
set_option maxRecDepth 100000
set_option maxHeartbeats 0
namespace Mine
def exprOf : List Stmt → Expr
  | .Assign _ e _ :: _ => e
  | _ => .Constant .none 0 ⟨0, 0, 0, 0⟩
theorem pick_take {vs : List Value} {n : Nat} (hn : n ≤ vs.length) : kms_pick vs none (some (n : Int)) = vs.take n := by
  have h1 : kms_hi (some (n : Int)) vs.length = n := by
    unfold kms_hi
    dsimp only
    rw [if_neg (by omega), Int.toNat_natCast]
    omega
  have h0 : kms_lo none vs.length = 0 := rfl
  show (vs.drop (kms_lo none vs.length)).take (kms_hi (some (n : Int)) vs.length - kms_lo none vs.length) = _
  rw [h1, h0]
  simp
theorem pick_mid {vs : List Value} {n : Nat} {z : Int} (hz : z = 2 * (n : Int)) (hn : 2 * n ≤ vs.length) : kms_pick vs (some (n : Int)) (some z) = (vs.drop n).take n := by
  subst hz
  have h1 : kms_hi (some (2 * (n : Int))) vs.length = 2 * n := by
    unfold kms_hi
    dsimp only
    rw [if_neg (by omega)]
    omega
  have h0 : kms_lo (some (n : Int)) vs.length = n := by
    unfold kms_lo
    dsimp only
    rw [if_neg (by omega), Int.toNat_natCast]
    omega
  show (vs.drop (kms_lo (some (n : Int)) vs.length)).take (kms_hi (some (2 * (n : Int))) vs.length - kms_lo (some (n : Int)) vs.length) = _
  rw [h1, h0]
  congr 1
  omega
theorem OffC.app {L : Addr} {a b : List (Addr × Obj)} (ha : OffC L a) (hb : OffC L b) : OffC L (a ++ b) := fun p hp j h1 h9 => (List.mem_append.mp hp).elim (fun h => ha p h j h1 h9) fun h => hb p h j h1 h9
/-- what the wishes are made of so far -/
inductive JWi (N : Nat) (L : Addr) (o9 o8 o7 o6 o5 o4 o3 o2 o1 : Obj) (tl : List (Addr × Obj)) (i : Nat) (us : List Value) (nw : List (Addr × Obj)) : Prop
  | mk (els : List (Addr × Obj)) (W : List (List Nat)) (q1 : nw = (L + 9, o9) :: (L + 8, o8) :: (L + 7, o7) :: (L + 6, o6) :: (L + 5, o5) :: (L + 4, o4) :: (L + 3, o3) :: (L + 2, o2) :: (L + 1, o1) :: (els ++ tl)) (q2 : us = refsOf els) (q3 : Paired (fun p e => IntsO p e.2) W els) (q4 : W.length = i) (q5 : (∀ p ∈ W, p.Perm (List.range N))) (q6 : OffC L els) (q7 : ∀ e ∈ els, @Ne Nat e.1 114) : JWi N L o9 o8 o7 o6 o5 o4 o3 o2 o1 tl i us nw
theorem rng_perm {vs ys : List Value} {N : Nat} (h : RngVals vs N) (hp : ys.Perm vs) : ∃ p : List Nat, IntsN ys p ∧ p.Perm (List.range N) := by
  have hi := rng_ints h
  have hm : ∀ v ∈ vs, ∃ (n : Nat) (t : Tok), v = .int (n : Int) t := fun v hv => by
    obtain ⟨i, hi2, rfl⟩ := List.getElem_of_mem hv
    obtain ⟨t, e⟩ := h.2 i _ (List.getElem?_eq_getElem hi2)
    exact ⟨i, t, e⟩
  let f : Value → Nat := fun v => match v with
    | .int z _ => z.toNat
    | _ => 0
  refine ⟨ys.map f, ⟨by simp, fun i v hv => ?_⟩, ?_⟩
  · obtain ⟨n, t, rfl⟩ := hm v (hp.mem_iff.mp (List.mem_of_getElem? hv))
    exact ⟨n, t, by rw [List.getElem?_map, hv]; rfl, rfl⟩
  · have e : vs.map f = List.range N := by
      refine List.ext_getElem (by simp [h.1]) fun i h1 h2 => ?_
      have h3 : i < vs.length := by simpa using h1
      obtain ⟨t, e⟩ := h.2 i vs[i] (List.getElem?_eq_getElem h3)
      rw [List.getElem_map, e]
      simp [f]
    rw [← e]
    exact hp.map f
theorem ints_take_n {vs : List Value} {ns : List Int} (h : IntsAre vs ns) {k : Nat} : ∀ (i : Nat) (v : Value), (vs.take k)[i]? = some v → ∃ (z : Int) (t : Tok), v = .int z t := by
  intro i v hv
  have hm := List.mem_of_mem_take (List.mem_of_getElem? hv)
  clear hv
  induction h with
  | nil => cases hm
  | cons n t _ ih =>
    rcases List.mem_cons.mp hm with rfl | hm
    · exact ⟨_, _, rfl⟩
    · exact ih hm
theorem led_grow {h₀ h h5 : Heap} {L D : Addr} {m : Str → Option Value} {c : Addr × Obj} {o : Obj} {C9 els tl : List (Addr × Obj)} (F : Fr h₀ L h m) (N : News h₀ L h (c :: (C9 ++ (els ++ tl)))) (st : h.StaysIn h5) (hDo : h5.get? D = some o) (hDn : h.get? D = none) : News h₀ L h5 (C9 ++ ((els ++ [(D, o)]) ++ tl)) := fun p hp => by
  have old : ∀ p ∈ C9 ++ (els ++ tl), h5.get? p.1 = some p.2 ∧ p.1 ≠ L ∧ h₀.get? p.1 = none := fun p hp => ⟨st _ _ (N p (.tail _ hp)).1, (N p (.tail _ hp)).2⟩
  simp only [List.mem_append, List.mem_singleton] at hp
  rcases hp with h | ((h | h) | h)
  · exact old p (by simp [h])
  · exact old p (by simp [h])
  · subst h; exact news_add (news := []) F (fun _ h => by cases h) hDo hDn _ (.head _)
  · exact old p (by simp [h])
theorem led_came {h : Heap} {D : Addr} {o : Obj} {C9 els tl : List (Addr × Obj)} (hDn : h.get? D = none) : ∀ p ∈ C9 ++ ((els ++ [(D, o)]) ++ tl), p ∈ C9 ++ (els ++ tl) ∨ NoEx p.1 ∨ h.get? p.1 = none := fun p hp => by
  simp only [List.mem_append, List.mem_singleton] at hp ⊢
  rcases hp with h | ((h | h) | h)
  · simp [h]
  · simp [h]
  · subst h; exact .inr (.inr hDn)
  · simp [h]
theorem off_new {L D : Addr} {c : Addr × Obj} {o o9 o8 o7 o6 o5 o4 o3 o2 o1 : Obj} {X : List (Addr × Obj)} (q : ∀ p ∈ c :: (L + 9, o9) :: (L + 8, o8) :: (L + 7, o7) :: (L + 6, o6) :: (L + 5, o5) :: (L + 4, o4) :: (L + 3, o3) :: (L + 2, o2) :: (L + 1, o1) :: X, @Ne Nat p.1 D) : OffC L [(D, o)] :=
  OffC.cons (fun p hp => by cases hp) (Ne.symm (q (L + 1, o1) (sub_at 9 rfl))) (Ne.symm (q (L + 2, o2) (sub_at 8 rfl))) (Ne.symm (q (L + 3, o3) (sub_at 7 rfl))) (Ne.symm (q (L + 4, o4) (sub_at 6 rfl))) (Ne.symm (q (L + 5, o5) (sub_at 5 rfl))) (Ne.symm (q (L + 6, o6) (sub_at 4 rfl))) (Ne.symm (q (L + 7, o7) (sub_at 3 rfl))) (Ne.symm (q (L + 8, o8) (sub_at 2 rfl))) (Ne.symm (q (L + 9, o9) (sub_at 1 rfl)))
theorem mem_snoc {α : Type} {P : α → Prop} {l : List α} {x : α} (h : ∀ y ∈ l, P y) (hx : P x) : ∀ y ∈ l ++ [x], P y := fun y hy => by
  rcases List.mem_append.mp hy with hy | hy
  · exact h y hy
  · rw [List.mem_singleton.mp hy]; exact hx
local macro_rules | `(tactic| k_room) => `(tactic| ktr_room)
local macro_rules | `(tactic| k_all) => `(tactic| assumption)
local macro_rules | `(tactic| k_get) => `(tactic| assumption)
local macro_rules | `(tactic| walk_at "eval ListComp") => `(tactic| (k_here; refine hold_ ?_))
local macro_rules | `(tactic| walk_at "call ref") => `(tactic| (k_here; refine hold_ ?_))
local macro_rules | `(tactic| walk_at "subscriptTail Name Slice ref ref") => `(tactic| (k_here; refine hold_ ?_))
theorem wish_c {w : World} {fA : Addr} {cD : Value} {loose : List Str} {mean : ExcName → Option Value} {mg mb : Str → Option Value} {h₀ base : Heap} {L : Addr} {cs : Scope} {s : Shared} {m : Str → Option Value} {ex : Expr}
  {tl : List (Addr × Obj)} {N kc : Nat} {cl : Addr} {cv : List Value} {ns : List Int} {o1 o2 o3 o4 o5 o6 o7 o8 o9 oP : Obj} {t1 : Tok} {E Q : Value → Shared → Prop}
  (hsc : lawSc = cs) (hex : exprOf (nthS 3 lawB) = ex) (K0 : Below callerA base [] h₀) (X : (hd.heap_39 w.params).In h₀) (T0 : Top topProg loose mean mg mb h₀)
  (F : Fr h₀ L s.heap (fun y => if y = Str.ofString "cells" then some (.ref cl) else m y))
  (Nw : News h₀ L s.heap ((L + 9, o9) :: (L + 8, o8) :: (L + 7, o7) :: (L + 6, o6) :: (L + 5, o5) :: (L + 4, o4) :: (L + 3, o3) :: (L + 2, o2) :: (L + 1, o1) :: tl))
  (d1 : o1.data = .cell (some (.int (N : Int) t1))) (hcl : (cl, lstO cv.toArray kc) ∈ tl) (hci : IntsAre cv ns) (hc8 : 8 ≤ cv.length) (hc16 : cv.length ≤ 16) (hN2 : 2 ≤ N) (hN4 : N ≤ 4) (h114 : (114, oP) ∈ tl)
  (hret : ∀ (D : Addr) (h' : Heap) (tk' k : Nat) (els : List (Addr × Obj)) (W : List (List Nat)), Paired (fun p e => IntsO p e.2) W els → W.length = N → (∀ p ∈ W, p.Perm (List.range N)) → OffC L els → (∀ e ∈ els, @Ne Nat e.1 114) → (∀ p ∈ (L + 9, o9) :: (L + 8, o8) :: (L + 7, o7) :: (L + 6, o6) :: (L + 5, o5) :: (L + 4, o4) :: (L + 3, o3) :: (L + 2, o2) :: (L + 1, o1) :: tl, @Ne Nat p.1 D) →
    Fr h₀ L h' (fun y => if y = Str.ofString "cells" then some (.ref cl) else m y) →
    News h₀ L h' ((D, lstO (refsOf els).toArray k) :: (L + 9, o9) :: (L + 8, o8) :: (L + 7, o7) :: (L + 6, o6) :: (L + 5, o5) :: (L + 4, o4) :: (L + 3, o3) :: (L + 2, o2) :: (L + 1, o1) :: (els ++ tl)) → (∀ e ∈ els, @Ne Nat e.1 D) → Q (.ref D) { s with heap := h', toks := tk' }) :
  wpAny (model Challenge.rw_ij0195_02.row.prog w) (callerA.deeper (envOfC (Str.ofString "law") cs L fA cD)) (eval ex (envOfC (Str.ofString "law") cs L fA cD)) Q E s := by
  w_strict (
    (revert X; k_fill; intro X)
    have hs1 : lawSt = .FunctionDef _ _ _ _ _ _ _ _ _ _ :: _ := rfl
    unfold lawSc at hsc
    rw [hs1] at hsc
    dsimp only [scOf] at hsc
    subst hsc
    have hb1 : nthS 3 lawB = .Assign _ _ _ :: _ := rfl
    rw [hb1] at hex
    dsimp only [exprOf] at hex
    subst hex
    clear hs1 hb1
    refine led_at (by with_unfolding_all rfl) (by decide) (by rfl) (by decide) (by rfl) ?_
    k_steps
    refine of_hold ?_
    with_reducible rename Fr _ _ _ _ => F1
    with_reducible rename News _ _ _ _ => N1
    refine kms_slice_lit F1 N1 (its := cv.toArray) ⟨_, (N1 (cl, lstO cv.toArray kc) (by first | exact sub_in 9 hcl rfl | exact sub_in 10 hcl rfl | exact sub_in 11 hcl rfl | exact sub_in 12 hcl rfl | exact sub_in 13 hcl rfl)).1, rfl, _, rfl⟩ .none (.int (N : Int) _) (pick_take (vs := cv) (by omega)) (fun D1 h2 F2 N2 l2 => ?_) (by with_unfolding_all rfl) (by intro _; with_unfolding_all rfl) (by rw [List.size_toArray, sizeLine_eq]; omega)
    clear F1 N1
    have hitk := ints_take_n hci (k := N)
    have hvl : (cv.take N).length = N := by rw [List.length_take]; omega
    refine ⟨_, _, _, _, _, _, NoEx, JWi N L o9 o8 o7 o6 o5 o4 o3 o2 o1 ((D1, lstO (cv.take N).toArray 0) :: tl), srcp_list (vs := cv.take N) rfl ⟨_, (N2 _ (.head _)).1, rfl, _, rfl⟩ (fun h => h), by omega, F2, ?hN, fun b h => absurd h id, ⟨[], [], rfl, rfl, .nil, rfl, by simp, (fun p hp => by cases hp), by simp⟩, ?turn, ?fin⟩
    (case hN =>
      first | exact news_sub N2 (sub_of [1, 2, 3, 4, 5, 6, 7, 8, 9, 0] 10 rfl) | exact news_sub N2 (sub_of [2, 3, 4, 5, 6, 7, 8, 9, 10, 0] 11 rfl) | exact news_sub N2 (sub_of [2, 3, 4, 5, 6, 7, 8, 9, 10, 1] 11 rfl))
    (case turn =>
      intro i v us nw C oC mC s2 E' hi hv hJ hns hm2 F3 N3 hoff hC
      obtain ⟨els, Wi, rfl, rfl, hP, hWl, hWp, hoE, h4E⟩ := hJ
      obtain ⟨z, t, rfl⟩ := hitk i v hv
      k_steps
      refine of_hold ?_
      with_reducible rename Fr _ _ _ _ => F4
      with_reducible rename News _ _ _ _ => N4
      with_reducible rename ∀ b o, s2.heap.get? b = some o → _ => k4
      with_unfolding_all refine' order_r (N := N) ?k1 ?k2 ?k3 ?k4 ?k5 ?k6 ?k7 ?k8 ?k9 ?k10 ?_
      (case k1 => exact K0)
      (case k2 => exact F4)
      (case k3 => k_asm)
      (case k4 => k_asm)
      (case k5 => exact rfl)
      (case k6 => ktr_room)
      (case k7 => ktr_units)
      (case k8 => assumption)
      (case k9 => rfl)
      (case k10 => omega)
      intro D vs5 ys5 c5 h5 tk5 hvs5 hp5 st5 hDo hDn
      obtain ⟨p, hpi, hpp⟩ := rng_perm hvs5 hp5
      have hDn2 : s2.heap.get? D = none := by
        cases q : s2.heap.get? D with
        | none => rfl
        | some o => have := k4 D o q; rw [hDn] at this; cases this
      have q5 := fresh_all N4 hDn
      refine ⟨h5, tk5, (L + 9, o9) :: (L + 8, o8) :: (L + 7, o7) :: (L + 6, o6) :: (L + 5, o5) :: (L + 4, o4) :: (L + 3, o3) :: (L + 2, o2) :: (L + 1, o1) :: ((els ++ [(D, lstO ys5.toArray c5)]) ++ (D1, lstO (cv.take N).toArray 0) :: tl), rfl, F4.keeps st5, ?m1, ⟨els ++ [(D, lstO ys5.toArray c5)], Wi ++ [p], rfl, by simp [refsOf], Mine.Paired.app hP (.cons ⟨ys5, c5, rfl, hpi⟩ .nil), by simp [hWl], ?m2, ?m3, ?m4⟩, fun b o _ e => st5 b o (k4 b o e), ?m5⟩
      (case m1 => exact led_grow (C9 := [(L + 9, o9), (L + 8, o8), (L + 7, o7), (L + 6, o6), (L + 5, o5), (L + 4, o4), (L + 3, o3), (L + 2, o2), (L + 1, o1)]) F4 N4 st5 hDo hDn)
      (case m2 => exact mem_snoc hWp hpp)
      (case m3 => exact OffC.app hoE (off_new q5))
      (case m4 => exact mem_snoc h4E (Ne.symm (q5 (114, oP) (sub_in 10 (List.mem_append_right _ (.tail _ h114)) rfl))))
      (case m5 => exact led_came (C9 := [(L + 9, o9), (L + 8, o8), (L + 7, o7), (L + 6, o6), (L + 5, o5), (L + 4, o4), (L + 3, o3), (L + 2, o2), (L + 1, o1)]) hDn2))
    (case fin =>
      intro D h9 tk9 k9 us nw hJ F9 N9 hoff9 hDn9 hk9
      obtain ⟨els, Wi, rfl, rfl, hP, hWl, hWp, hoE, h4E⟩ := hJ
      have q9 := fresh_all N2 hDn9
      refine hret D h9 tk9 k9 els Wi hP (hWl.trans hvl) hWp hoE h4E (fun p hp => q9 p (.tail _ hp)) F9 (news_sub N9 (sub_gen [0, 1, 2, 3, 4, 5, 6, 7, 8, 9] (els ++ tl) (fun _ h => sub_in 10 (app_skip h) rfl) rfl)) fun e he => hoff9 e (sub_in 9 (List.mem_append_left _ he) rfl)))
end Mine
end
section
open PySem PySem.W PyProof.Rows PySem.Calls
set_option maxRecDepth 100000
set_option maxHeartbeats 0
namespace Mine
/-- what the ranks are made of so far -/
inductive JRa (nx : List Str) (L : Addr) (o9 o8 o7 o6 o5 o4 o3 o2 o1 : Obj) (tl : List (Addr × Obj)) (i : Nat) (us : List Value) (nw : List (Addr × Obj)) : Prop
  | mk (els : List (Addr × Obj)) (R : List (List Str)) (q1 : nw = (L + 9, o9) :: (L + 8, o8) :: (L + 7, o7) :: (L + 6, o6) :: (L + 5, o5) :: (L + 4, o4) :: (L + 3, o3) :: (L + 2, o2) :: (L + 1, o1) :: (els ++ tl)) (q2 : us = refsOf els) (q3 : Paired (fun r e => StrsO r e.2) R els) (q4 : R.length = i) (q5 : (∀ r ∈ R, r.Perm nx)) (q6 : OffC L els) (q7 : ∀ e ∈ els, @Ne Nat e.1 114) : JRa nx L o9 o8 o7 o6 o5 o4 o3 o2 o1 tl i us nw
theorem strs_perm {vs ys : List Value} {xs : List Str} (h : StrsAre vs xs) (hp : ys.Perm vs) : ∃ r : List Str, StrsAre ys r ∧ r.Perm xs := by
  let f : Value → Str := fun v => match v with
    | .str x _ => x
    | _ => Str.ofString ""
  have hm : ∀ v ∈ vs, ∃ (x : Str) (t : Tok), v = .str x t := fun v hv => by
    obtain ⟨i, hi2, rfl⟩ := List.getElem_of_mem hv
    obtain ⟨x, t, _, e⟩ := strs_get h (List.getElem?_eq_getElem hi2)
    exact ⟨x, t, e⟩
  have go : ∀ ys : List Value, (∀ v ∈ ys, ∃ (x : Str) (t : Tok), v = .str x t) → StrsAre ys (ys.map f) := by
    intro ys
    induction ys with
    | nil => intro _; exact .nil
    | cons v ys ih =>
      intro hy
      obtain ⟨x, t, rfl⟩ := hy v (.head _)
      exact .cons _ _ (ih fun v hv => hy v (.tail _ hv))
  refine ⟨ys.map f, go ys fun v hv => hm v (hp.mem_iff.mp hv), ?_⟩
  have e : vs.map f = xs := by
    clear hp hm
    induction h with
    | nil => rfl
    | cons x t _ ih => simp [f]; exact ih
  rw [← e]
  exact hp.map f
theorem ints_mid_n {vs : List Value} {ns : List Int} (h : IntsAre vs ns) {n : Nat} : ∀ (i : Nat) (v : Value), ((vs.drop n).take n)[i]? = some v → ∃ (z : Int) (t : Tok), v = .int z t := by
  intro i v hv
  have hm := List.mem_of_mem_drop (List.mem_of_mem_take (List.mem_of_getElem? hv))
  clear hv
  induction h with
  | nil => cases hm
  | cons n t _ ih =>
    rcases List.mem_cons.mp hm with rfl | hm
    · exact ⟨_, _, rfl⟩
    · exact ih hm
local macro_rules | `(tactic| k_room) => `(tactic| ktr_room)
local macro_rules | `(tactic| k_all) => `(tactic| assumption)
local macro_rules | `(tactic| k_get) => `(tactic| assumption)
local macro_rules | `(tactic| walk_at "eval ListComp") => `(tactic| (k_here; refine hold_ ?_))
local macro_rules | `(tactic| walk_at "call ref") => `(tactic| (k_here; refine hold_ ?_))
local macro_rules | `(tactic| walk_at "subscriptTail Name Slice ref ref") => `(tactic| (k_here; refine hold_ ?_))
theorem rank_c {w : World} {fA : Addr} {cD : Value} {loose : List Str} {mean : ExcName → Option Value} {mg mb : Str → Option Value} {h₀ base : Heap} {L : Addr} {cs : Scope} {s : Shared} {m : Str → Option Value} {ex : Expr}
  {tl : List (Addr × Obj)} {N kc : Nat} {cl nl : Addr} {cv nv : List Value} {ns : List Int} {nx : List Str} {kn : Nat} {o1 o2 o3 o4 o5 o6 o7 o8 o9 oP : Obj} {t1 : Tok} {E Q : Value → Shared → Prop}
  (hsc : lawSc = cs) (hex : exprOf (nthS 4 lawB) = ex) (K0 : Below callerA base [] h₀) (X : (hd.heap_39 w.params).In h₀) (T0 : Top topProg loose mean mg mb h₀)
  (F : Fr h₀ L s.heap (fun y => if y = Str.ofString "cells" then some (.ref cl) else m y))
  (Nw : News h₀ L s.heap ((L + 9, o9) :: (L + 8, o8) :: (L + 7, o7) :: (L + 6, o6) :: (L + 5, o5) :: (L + 4, o4) :: (L + 3, o3) :: (L + 2, o2) :: (L + 1, o1) :: tl))
  (d1 : o1.data = .cell (some (.int (N : Int) t1))) (d2 : o2.data = .cell (some (.ref nl))) (hnl : (nl, lstO nv.toArray kn) ∈ tl) (hsn : StrsAre nv nx) (hnz : nv.length ≤ 4) (hcl : (cl, lstO cv.toArray kc) ∈ tl) (hci : IntsAre cv ns) (hc8 : 8 ≤ cv.length) (hc16 : cv.length ≤ 16) (hN2 : 2 ≤ N) (hN4 : N ≤ 4) (h114 : (114, oP) ∈ tl)
  (hret : ∀ (D : Addr) (h' : Heap) (tk' k : Nat) (els : List (Addr × Obj)) (R : List (List Str)), Paired (fun r e => StrsO r e.2) R els → R.length = N → (∀ r ∈ R, r.Perm nx) → OffC L els → (∀ e ∈ els, @Ne Nat e.1 114) → (∀ p ∈ (L + 9, o9) :: (L + 8, o8) :: (L + 7, o7) :: (L + 6, o6) :: (L + 5, o5) :: (L + 4, o4) :: (L + 3, o3) :: (L + 2, o2) :: (L + 1, o1) :: tl, @Ne Nat p.1 D) →
    Fr h₀ L h' (fun y => if y = Str.ofString "cells" then some (.ref cl) else m y) →
    News h₀ L h' ((D, lstO (refsOf els).toArray k) :: (L + 9, o9) :: (L + 8, o8) :: (L + 7, o7) :: (L + 6, o6) :: (L + 5, o5) :: (L + 4, o4) :: (L + 3, o3) :: (L + 2, o2) :: (L + 1, o1) :: (els ++ tl)) → (∀ e ∈ els, @Ne Nat e.1 D) → Q (.ref D) { s with heap := h', toks := tk' }) :
  wpAny (model Challenge.rw_ij0195_02.row.prog w) (callerA.deeper (envOfC (Str.ofString "law") cs L fA cD)) (eval ex (envOfC (Str.ofString "law") cs L fA cD)) Q E s := by
  w_strict (
    (revert X; k_fill; intro X)
    have hs1 : lawSt = .FunctionDef _ _ _ _ _ _ _ _ _ _ :: _ := rfl
    unfold lawSc at hsc
    rw [hs1] at hsc
    dsimp only [scOf] at hsc
    subst hsc
    have hb1 : nthS 4 lawB = .Assign _ _ _ :: _ := rfl
    rw [hb1] at hex
    dsimp only [exprOf] at hex
    subst hex
    clear hs1 hb1
    refine led_at (by with_unfolding_all rfl) (by decide) (by rfl) (by decide) (by rfl) ?_
    k_steps
    refine of_hold ?_
    with_reducible rename Fr _ _ _ _ => F1
    with_reducible rename News _ _ _ _ => N1
    refine kms_slice_lit F1 N1 (its := cv.toArray) ⟨_, (N1 (cl, lstO cv.toArray kc) (by first | exact sub_in 9 hcl rfl | exact sub_in 10 hcl rfl | exact sub_in 11 hcl rfl | exact sub_in 12 hcl rfl | exact sub_in 13 hcl rfl)).1, rfl, _, rfl⟩ (.int (N : Int) _) (.int _ _) (pick_mid (vs := cv) rfl (by omega)) (fun D1 h2 F2 N2 l2 => ?_) (by with_unfolding_all rfl) (by intro _; with_unfolding_all rfl) (by rw [List.size_toArray, sizeLine_eq]; omega)
    clear F1 N1
    have hitk := ints_mid_n hci (n := N)
    have hvl : ((cv.drop N).take N).length = N := by rw [List.length_take, List.length_drop]; omega
    refine ⟨_, _, _, _, _, _, NoEx, JRa nx L o9 o8 o7 o6 o5 o4 o3 o2 o1 ((D1, lstO ((cv.drop N).take N).toArray 0) :: tl), srcp_list (vs := (cv.drop N).take N) rfl ⟨_, (N2 _ (.head _)).1, rfl, _, rfl⟩ (fun h => h), by omega, F2, ?hN, fun b h => absurd h id, ⟨[], [], rfl, rfl, .nil, rfl, by simp, (fun p hp => by cases hp), by simp⟩, ?turn, ?fin⟩
    (case hN =>
      first | exact news_sub N2 (sub_of [1, 2, 3, 4, 5, 6, 7, 8, 9, 0] 10 rfl) | exact news_sub N2 (sub_of [2, 3, 4, 5, 6, 7, 8, 9, 10, 0] 11 rfl) | exact news_sub N2 (sub_of [2, 3, 4, 5, 6, 7, 8, 9, 10, 1] 11 rfl))
    (case turn =>
      intro i v us nw C oC mC s2 E' hi hv hJ hns hm2 F3 N3 hoff hC
      obtain ⟨els, Wi, rfl, rfl, hP, hWl, hWp, hoE, h4E⟩ := hJ
      obtain ⟨z, t, rfl⟩ := hitk i v hv
      k_steps
      refine of_hold ?_
      with_reducible rename Fr _ _ _ _ => F4
      with_reducible rename News _ _ _ _ => N4
      have k4 : ∀ b o, s2.heap.get? b = some o → s2.heap.get? b = some o := fun _ _ e => e
      with_unfolding_all refine' order_l (vs := nv) ?k1 ?k2 ?k3 ?k4 ?k5 ?k6 ?k7 ?k8 ?k9 ?_
      (case k1 => exact K0)
      (case k2 => exact F4)
      (case k3 => k_asm)
      (case k4 => k_asm)
      (case k5 => exact rfl)
      (case k6 => ktr_room)
      (case k7 => ktr_units)
      (case k8 => exact ⟨_, (N4 (nl, lstO nv.toArray kn) (sub_in 10 (List.mem_append_right _ (.tail _ hnl)) rfl)).1, rfl, _, rfl⟩)
      (case k9 => omega)
      intro D ys5 c5 h5 tk5 hp5 st5 hDo hDn
      obtain ⟨p, hpi, hpp⟩ := strs_perm hsn hp5
      have hDn2 : s2.heap.get? D = none := by
        cases q : s2.heap.get? D with
        | none => rfl
        | some o => have := k4 D o q; rw [hDn] at this; cases this
      have q5 := fresh_all N4 hDn
      refine ⟨h5, tk5, (L + 9, o9) :: (L + 8, o8) :: (L + 7, o7) :: (L + 6, o6) :: (L + 5, o5) :: (L + 4, o4) :: (L + 3, o3) :: (L + 2, o2) :: (L + 1, o1) :: ((els ++ [(D, lstO ys5.toArray c5)]) ++ (D1, lstO ((cv.drop N).take N).toArray 0) :: tl), rfl, F4.keeps st5, ?m1, ⟨els ++ [(D, lstO ys5.toArray c5)], Wi ++ [p], rfl, by simp [refsOf], Mine.Paired.app hP (.cons ⟨ys5, c5, rfl, hpi⟩ .nil), by simp [hWl], ?m2, ?m3, ?m4⟩, fun b o _ e => st5 b o (k4 b o e), ?m5⟩
      (case m1 => exact led_grow (C9 := [(L + 9, o9), (L + 8, o8), (L + 7, o7), (L + 6, o6), (L + 5, o5), (L + 4, o4), (L + 3, o3), (L + 2, o2), (L + 1, o1)]) F4 N4 st5 hDo hDn)
      (case m2 => exact mem_snoc hWp hpp)
      (case m3 => exact OffC.app hoE (off_new q5))
      (case m4 => exact mem_snoc h4E (Ne.symm (q5 (114, oP) (sub_in 10 (List.mem_append_right _ (.tail _ h114)) rfl))))
      (case m5 => exact led_came (C9 := [(L + 9, o9), (L + 8, o8), (L + 7, o7), (L + 6, o6), (L + 5, o5), (L + 4, o4), (L + 3, o3), (L + 2, o2), (L + 1, o1)]) hDn2))
    (case fin =>
      intro D h9 tk9 k9 us nw hJ F9 N9 hoff9 hDn9 hk9
      obtain ⟨els, Wi, rfl, rfl, hP, hWl, hWp, hoE, h4E⟩ := hJ
      have q9 := fresh_all N2 hDn9
      refine hret D h9 tk9 k9 els Wi hP (hWl.trans hvl) hWp hoE h4E (fun p hp => q9 p (.tail _ hp)) F9 (news_sub N9 (sub_gen [0, 1, 2, 3, 4, 5, 6, 7, 8, 9] (els ++ tl) (fun _ h => sub_in 10 (app_skip h) rfl) rfl)) fun e he => hoff9 e (sub_in 9 (List.mem_append_left _ he) rfl)))
end Mine
end
section
open PySem PySem.W PyProof.Rows PySem.Calls
set_option maxRecDepth 100000
set_option maxHeartbeats 0
namespace Mine
/-- what the hosts are made of so far -/
inductive JHo (R : List (List Str)) (L : Addr) (o9 o8 o7 o6 o5 o4 o3 o2 o1 : Obj) (tl : List (Addr × Obj)) (i : Nat) (us : List Value) (nw : List (Addr × Obj)) : Prop
  | mk (t' : List (Addr × Obj)) (q1 : nw = (L + 9, o9) :: (L + 8, o8) :: (L + 7, o7) :: (L + 6, o6) :: (L + 5, o5) :: (L + 4, o4) :: (L + 3, o3) :: (L + 2, o2) :: (L + 1, o1) :: t') (q2 : Grow tl t') (q3 : Tab [] t') (q4 : Paired (fun r u => ∃ a ss, u = Value.ref a ∧ ss.Perm r ∧ HostS t' a (rulesOf r ss)) (R.take i) us) (q5 : OffC L t') : JHo R L o9 o8 o7 o6 o5 o4 o3 o2 o1 tl i us nw
local macro_rules | `(tactic| k_room) => `(tactic| ktr_room)
local macro_rules | `(tactic| k_all) => `(tactic| assumption)
local macro_rules | `(tactic| k_get) => `(tactic| assumption)
local macro_rules | `(tactic| walk_at "call ref") => `(tactic| (k_here; refine hold_ ?_))
local macro_rules | `(tactic| ke_reads) => `(tactic| first | exact Tl.nil | (refine' Tl.cons ?a ?b; (case a => k_ne); (case b => ke_reads)))
theorem host_c {w : World} {fA : Addr} {cD : Value} {loose : List Str} {mean : ExcName → Option Value} {mg mb : Str → Option Value} {h₀ base : Heap} {L : Addr} {cs : Scope} {s : Shared} {m : Str → Option Value} {st : Stmt} {rest : List Stmt}
  {tl : List (Addr × Obj)} {N kr : Nat} {rl : Addr} {rv : List Value} {R : List (List Str)} {o1 o2 o3 o4 o5 o6 o7 o8 o9 : Obj} {E : Value → Shared → Prop} {Q : Flow → Shared → Prop}
  (hsc : lawSc = cs) (hst : nthS 5 lawB = st :: rest) (K0 : Below callerA base [] h₀) (X : (hd.heap_39 w.params).In h₀) (T0 : Top topProg loose mean mg mb h₀) (Cd : CodeHd h₀ 118 114)
  (F : Fr h₀ L s.heap m) (l0 : @LT.lt Nat _ 114 L)
  (Nw : News h₀ L s.heap ((L + 9, o9) :: (L + 8, o8) :: (L + 7, o7) :: (L + 6, o6) :: (L + 5, o5) :: (L + 4, o4) :: (L + 3, o3) :: (L + 2, o2) :: (L + 1, o1) :: tl))
  (d4 : o4.data = .cell (some (.ref rl))) (hrl : (rl, lstO rv.toArray kr) ∈ tl) (hr114 : @Ne Nat rl 114) (sr : Paired (fun r u => ∃ a o, u = Value.ref a ∧ (a, o) ∈ tl ∧ @Ne Nat a 114 ∧ StrsO r o) R rv) (hRl : R.length = N) (hN4 : N ≤ 4) (hRr : ∀ r ∈ R, r.length ≤ 8)
  (hb : Tab [] tl) (hoff : OffC L tl)
  (hret : ∀ (D : Addr) (h' : Heap) (tk' k : Nat) (us : List Value) (t' : List (Addr × Obj)), Grow tl t' → Tab [] t' → Paired (fun r u => ∃ a ss, u = Value.ref a ∧ ss.Perm r ∧ HostS t' a (rulesOf r ss)) R us → OffC L t' → (∀ p ∈ (L + 9, o9) :: (L + 8, o8) :: (L + 7, o7) :: (L + 6, o6) :: (L + 5, o5) :: (L + 4, o4) :: (L + 3, o3) :: (L + 2, o2) :: (L + 1, o1) :: tl, @Ne Nat p.1 D) →
    Fr h₀ L h' (fun y => if y = Str.ofString "hosts" then some (.ref D) else m y) →
    News h₀ L h' ((D, lstO us.toArray k) :: (L + 9, o9) :: (L + 8, o8) :: (L + 7, o7) :: (L + 6, o6) :: (L + 5, o5) :: (L + 4, o4) :: (L + 3, o3) :: (L + 2, o2) :: (L + 1, o1) :: t') → Q .next { s with heap := h', toks := tk' }) :
  wpAny (model Challenge.rw_ij0195_02.row.prog w) (callerA.deeper (envOfC (Str.ofString "law") cs L fA cD)) (exec st (envOfC (Str.ofString "law") cs L fA cD)) Q E s := by
  w_strict (
    (revert X; k_fill; intro X)
    have hs1 : lawSt = .FunctionDef _ _ _ _ _ _ _ _ _ _ :: _ := rfl
    unfold lawSc at hsc
    rw [hs1] at hsc
    dsimp only [scOf] at hsc
    subst hsc
    have hb1 : nthS 5 lawB = .Assign _ _ _ :: _ := rfl
    rw [hb1] at hst
    injection hst with e1 e2
    subst e1
    clear e2 hs1 hb1
    have hrvl : rv.length = N := by rw [← sr.length, hRl]
    refine led_use (by with_unfolding_all rfl) (by with_unfolding_all rfl) (by decide) (by rfl) (by decide) (by rfl) (by rfl) (by rfl) ?_
    k_steps
    with_reducible rename Fr _ _ _ _ => F2
    with_reducible rename News _ _ _ _ => N2
    obtain ⟨oP, hP114, hcodes⟩ := id hb
    have h114 := (N2 (114, oP) (by first | exact sub_in 9 hP114 rfl | exact sub_in 10 hP114 rfl | exact sub_in 11 hP114 rfl | exact sub_in 12 hP114 rfl | exact sub_in 13 hP114 rfl)).1
    refine ⟨_, _, _, _, _, _, (fun b => b = 114), JHo R L o9 o8 o7 o6 o5 o4 o3 o2 o1 tl, srcp_list (vs := rv) rfl ⟨_, (N2 (rl, lstO rv.toArray kr) (by first | exact sub_in 9 hrl rfl | exact sub_in 10 hrl rfl | exact sub_in 11 hrl rfl | exact sub_in 12 hrl rfl | exact sub_in 13 hrl rfl)).1, rfl, _, rfl⟩ hr114, by omega, rfl, F2, N2, fun b hb2 e => ?hex, ⟨tl, rfl, Grow.refl, hb, .nil, hoff⟩, ?turn, ?fin⟩
    (case hex =>
      have hb3 : b = 114 := hb2
      rw [hb3, h114] at e; cases e)
    (case turn =>
      intro i v us nw C oC mC s2 E' hi hv hJ hns hm2 F3 N3 hoff3 hC
      obtain ⟨t', rfl, hg, htab, hP, hoT⟩ := hJ
      obtain ⟨r, hr, a, o, rfl, hao, ha114, vs, ka, rfl, hvs⟩ := paired_at sr hv
      have nC : @Ne Nat C 114 := fun e => by rw [e, h114] at hC; cases hC
      have hrz := hRr r (List.mem_of_getElem? hr)
      have hvl := StrsAre.length hvs
      k_steps
      refine of_hold ?_
      with_reducible rename Fr _ _ _ _ => F4
      with_reducible rename News _ _ _ _ => N4
      with_unfolding_all refine' record_b (sup := []) (t := t') (xs := r) (vs := vs) ?k1 ?k2 ?k3 ?k4 ?k5 ?k6 ?k7 ?k8 ?k9 htab ?kU ?k10 ?k11 ha114 hvs ?k12 ?_
      (case k1 => exact K0)
      (case k2 => exact F4)
      (case k3 => k_asm)
      (case k4 => k_asm)
      (case k5 => exact rfl)
      (case k6 => ktr_room)
      (case k7 => ktr_units)
      (case k8 => exact Cd)
      (case k9 => exact N4)
      (case kU => ke_reads)
      (case k10 => exact fun p hp => by cases hp)
      (case k11 => exact (N4 (a, lstO vs.toArray ka) (by first | exact sub_in 9 (hg _ hao ha114) rfl | exact sub_in 10 (hg _ hao ha114) rfl | exact sub_in 11 (hg _ hao ha114) rfl | exact sub_in 12 (hg _ hao ha114) rfl | exact sub_in 13 (hg _ hao ha114) rfl)).1)
      (case k12 => omega)
      intro one ss t2 h5 tk5 hperm hg2 htab2 hhost came F5 N5 k5
      have q4 := N4
      refine ⟨h5, tk5, (L + 9, o9) :: (L + 8, o8) :: (L + 7, o7) :: (L + 6, o6) :: (L + 5, o5) :: (L + 4, o4) :: (L + 3, o3) :: (L + 2, o2) :: (L + 1, o1) :: t2, rfl, F5, fun p hp => N5 p (.tail _ hp), ⟨t2, rfl, hg.trans hg2, htab2, ?m1, ?m2⟩, fun b o hb2 e => k5 b o hb2 e, ?m3⟩
      (case m1 =>
        have e : R.take (i + 1) = R.take i ++ [r] := by rw [List.take_succ, hr]; rfl
        rw [e]
        exact Mine.Paired.app (Mine.Paired.imp (fun _ _ ⟨a, ss, e, hp, hh⟩ => ⟨a, ss, e, hp, hh.grow hg2⟩) hP) (.cons ⟨one, ss, rfl, hperm, hhost⟩ .nil))
      (case m2 =>
        intro p hp j hj1 hj9
        rcases came p hp with h | h | h
        · exact hoT p h j hj1 hj9
        · intro e
          have e2 : @Eq Nat 114 (L + j) := h ▸ e
          omega
        · exact off_new (o := p.2) (fresh_all N4 h) (p.1, p.2) (.head _) j hj1 hj9)
      (case m3 =>
        refine sub_or [0, 1, 2, 3, 4, 5, 6, 7, 8] t2 ?_ rfl
        exact fun p h => (came p h).imp (fun h => sub_in 9 h rfl) id))
    (case fin =>
      intro D h9 tk9 k9 us nw hJ F9 N9 hoff9 hDn9 hk9
      obtain ⟨t', rfl, hg, htab, hP, hoT⟩ := hJ
      have q9 := fresh_all N2 hDn9
      rw [hrvl, ← hRl, List.take_length] at hP
      exact hret D h9 tk9 k9 us t' hg htab hP hoT q9 F9 N9))
end Mine
end
section
open PySem PySem.W PyProof.Rows PySem.Calls
set_option maxRecDepth 100000
set_option maxHeartbeats 0
namespace Mine
theorem off_new9 {L D : Addr} {o o9 o8 o7 o6 o5 o4 o3 o2 o1 : Obj} {X : List (Addr × Obj)} (q : ∀ p ∈ (L + 9, o9) :: (L + 8, o8) :: (L + 7, o7) :: (L + 6, o6) :: (L + 5, o5) :: (L + 4, o4) :: (L + 3, o3) :: (L + 2, o2) :: (L + 1, o1) :: X, @Ne Nat p.1 D) {tl : List (Addr × Obj)} (h : OffC L tl) : OffC L ((D, o) :: tl) :=
  OffC.cons h (Ne.symm (q (L + 1, o1) (sub_at 8 rfl))) (Ne.symm (q (L + 2, o2) (sub_at 7 rfl))) (Ne.symm (q (L + 3, o3) (sub_at 6 rfl))) (Ne.symm (q (L + 4, o4) (sub_at 5 rfl))) (Ne.symm (q (L + 5, o5) (sub_at 4 rfl))) (Ne.symm (q (L + 6, o6) (sub_at 3 rfl))) (Ne.symm (q (L + 7, o7) (sub_at 2 rfl))) (Ne.symm (q (L + 8, o8) (sub_at 1 rfl))) (Ne.symm (q (L + 9, o9) (sub_at 0 rfl)))
theorem subH {d a9 a8 a7 a6 a5 a4 a3 a2 a1 : Addr × Obj} {t : List (Addr × Obj)} : ∀ p ∈ a9 :: a8 :: a7 :: a6 :: a5 :: a4 :: a3 :: a2 :: a1 :: d :: t, p ∈ d :: a9 :: a8 :: a7 :: a6 :: a5 :: a4 :: a3 :: a2 :: a1 :: t := sub_of [1, 2, 3, 4, 5, 6, 7, 8, 9, 0] 10 rfl
theorem pair_refs {α : Type} {F : α → Obj → Prop} {P : Addr × Obj → Prop} {xs : List α} {els : List (Addr × Obj)} (h : Paired (fun x e => F x e.2) xs els) (hP : ∀ e ∈ els, P e) : Paired (fun x u => ∃ a o, u = Value.ref a ∧ P (a, o) ∧ F x o) xs (refsOf els) := by
  induction h with
  | nil => exact .nil
  | @cons l₁ l₂ a b e _ ih =>
    exact .cons ⟨_, _, rfl, hP _ (.head _), e⟩ (ih fun e he => hP e (.tail _ he))
theorem tab_at {t : List (Addr × Obj)} {e : Addr × Obj} {h : Heap} (x : Tab [] t) (k : ∀ p ∈ e :: t, h.get? p.1 = some p.2) : ∃ ps, h.get? 114 = some (tabObj ps) := by
  obtain ⟨o, hm, hc⟩ := x
  have h1 := k (114, o) (.tail _ hm)
  rcases hc with rfl | ⟨c1, c2, _, rfl, _⟩
  · exact ⟨_, h1⟩
  · exact ⟨_, h1⟩
local macro_rules | `(tactic| k_room) => `(tactic| ktr_room)
local macro_rules | `(tactic| k_all) => `(tactic| assumption)
local macro_rules | `(tactic| k_get) => `(tactic| assumption)
local macro_rules | `(tactic| walk_at "eval ListComp") => `(tactic| (k_here; refine hold_ ?_))
local macro_rules | `(tactic| walk_at "exec Assign cons ListComp") => `(tactic| (k_here; (with_reducible show wpAny _ _ (exec (Stmt.Assign [Expr.Name (PySem.Str.ofString "hosts") _] _ _) _) _ _ _); refine hold_ ?_))
theorem rest1_c {w : World} {fA : Addr} {cD : Value} {loose : List Str} {mean : ExcName → Option Value} {mg mb : Str → Option Value} {h₀ base : Heap} {L : Addr} {cs : Scope} {s : Shared} {m : Str → Option Value} {v3 v4 v5 v6 v7 v8 v9 : Option Value}
  {ss : List Stmt} {tl : List (Addr × Obj)} {N kc kn : Nat} {cl nl : Addr} {cv nv : List Value} {ns : List Int} {nx : List Str} {o1 o2 o3 o4 o5 o6 o7 o8 o9 : Obj} {t1 : Tok}
  {E : Value → Shared → Prop} {Q : Flow → Shared → Prop}
  (hsc : lawSc = cs) (hss : nthS 3 lawB = ss) (K0 : Below callerA base [] h₀) (X : (hd.heap_39 w.params).In h₀) (T0 : Top topProg loose mean mg mb h₀) (Cd : CodeHd h₀ 118 114)
  (F : Fr h₀ L s.heap (fun y => if y = Str.ofString "cells" then some (.ref cl) else m y)) (l0 : @LT.lt Nat _ 114 L)
  (Nw : News h₀ L s.heap ((L + 9, o9) :: (L + 8, o8) :: (L + 7, o7) :: (L + 6, o6) :: (L + 5, o5) :: (L + 4, o4) :: (L + 3, o3) :: (L + 2, o2) :: (L + 1, o1) :: tl))
  (d9 : o9.data = .cell v9) (d8 : o8.data = .cell v8) (d7 : o7.data = .cell v7) (d6 : o6.data = .cell v6) (d5 : o5.data = .cell v5) (d4 : o4.data = .cell v4) (d3 : o3.data = .cell v3) (d2 : o2.data = .cell (some (.ref nl))) (d1 : o1.data = .cell (some (.int (N : Int) t1)))
  (hoff : OffC L tl) (h114 : (114, tabObj #[]) ∈ tl) (hnl : (nl, lstO nv.toArray kn) ∈ tl) (hn114 : @Ne Nat nl 114) (hsn : StrsAre nv nx) (hcl : (cl, lstO cv.toArray kc) ∈ tl) (hci : IntsAre cv ns) (hc8 : 8 ≤ cv.length) (hc16 : cv.length ≤ 16)
  (hN2 : 2 ≤ N) (hN4 : N ≤ 4) (hnx : nx.length = N) (hnd : nx.Nodup) (hns : ∀ x ∈ nx, x.length ≤ 10)
  (hret : ∀ (h' : Heap) (tk' : Nat) (m' : Str → Option Value), Fr h₀ L h' m' → (∃ ps, h'.get? 114 = some (tabObj ps)) → Q (.ret (.bool true)) { s with heap := h', toks := tk' })
  (hE : PassesOwn (model Challenge.rw_ij0195_02.row.prog w) (callerA.deeper (envOfC (Str.ofString "law") cs L fA cD)) (envOfC (Str.ofString "law") cs L fA cD) E) :
  wpAny (model Challenge.rw_ij0195_02.row.prog w) (callerA.deeper (envOfC (Str.ofString "law") cs L fA cD)) (execs ss (envOfC (Str.ofString "law") cs L fA cD)) Q E s := by
  w_strict (
    (revert X; k_fill; intro X)
    have hs1 : lawSt = .FunctionDef _ _ _ _ _ _ _ _ _ _ :: _ := rfl
    unfold lawSc at hsc
    rw [hs1] at hsc
    dsimp only [scOf] at hsc
    subst hsc
    have hb1 : nthS 3 lawB = [_, _, _, _, _, _, _, _, _] := rfl
    rw [hb1] at hss
    subst hss
    clear hs1 hb1
    k_steps
    refine of_hold ?_
    with_reducible rename Fr _ _ _ _ => F1
    with_reducible rename News _ _ _ _ => N1
    have hnvl : nv.length = N := by rw [StrsAre.length hsn, hnx]
    refine wish_c rfl rfl K0 (by k_asm) T0 F1 N1 d1 hcl hci hc8 hc16 hN2 hN4 h114 fun D1 h2 tk2 k1 els1 W hP1 hWl hWp ho1 h41 hq1 F2 N2 hn1 => ?_
    have N3 := news_sub N2 subH
    have off1 := off_new9 (o := lstO (refsOf els1).toArray k1) hq1 (OffC.app ho1 hoff)
    obtain ⟨t1, et1⟩ : ∃ t, t = (D1, lstO (refsOf els1).toArray k1) :: (els1 ++ tl) := ⟨_, rfl⟩
    rw [← et1] at N3 off1
    have hs1 : ∀ p ∈ tl, p ∈ t1 := fun p hp => by rw [et1]; exact .tail _ (List.mem_append_right _ hp)
    have c3 := off1.ne (j := 3) (by decide) (by decide)
    clear F1 N1 N2
    k_steps
    refine of_hold ?_
    with_reducible rename Fr _ _ _ _ => F4
    with_reducible rename News _ _ _ _ => N4
    with_reducible rename _ = Data.cell (some (Value.ref D1)) => e3
    refine rank_c rfl rfl K0 (by k_asm) T0 F4 N4 d1 d2 (hs1 _ hnl) hsn (by omega) (hs1 _ hcl) hci hc8 hc16 hN2 hN4 (hs1 _ h114) fun D2 h3 tk3 k2 els2 R hP2 hRl hRp ho2 h42 hq2 F5 N5 hn2 => ?_
    have N6 := news_sub N5 subH
    have off2 := off_new9 (o := lstO (refsOf els2).toArray k2) hq2 (OffC.app ho2 off1)
    obtain ⟨t2, et2⟩ : ∃ t, t = (D2, lstO (refsOf els2).toArray k2) :: (els2 ++ t1) := ⟨_, rfl⟩
    rw [← et2] at N6 off2
    have hs2 : ∀ p ∈ t1, p ∈ t2 := fun p hp => by rw [et2]; exact .tail _ (List.mem_append_right _ hp)
    have c4 := off2.ne (j := 4) (by decide) (by decide)
    clear F4 N4 N5
    k_steps
    refine of_hold ?_
    with_reducible rename Fr _ _ _ _ => F7
    with_reducible rename News _ _ _ _ => N7
    with_reducible rename _ = Data.cell (some (Value.ref D2)) => e4
    have hD1 : @Ne Nat D1 114 := Ne.symm (hq1 (114, tabObj #[]) (by first | exact sub_in 9 h114 rfl | exact sub_in 10 h114 rfl | exact sub_in 11 h114 rfl | exact sub_in 12 h114 rfl | exact sub_in 13 h114 rfl))
    have hD2 : @Ne Nat D2 114 := Ne.symm (hq2 (114, tabObj #[]) (by first | exact sub_in 9 (hs1 _ h114) rfl | exact sub_in 10 (hs1 _ h114) rfl | exact sub_in 11 (hs1 _ h114) rfl | exact sub_in 12 (hs1 _ h114) rfl | exact sub_in 13 (hs1 _ h114) rfl))
    have hel2 : ∀ e ∈ els2, e ∈ t2 ∧ @Ne Nat e.1 114 := fun e he => ⟨by rw [et2]; exact .tail _ (List.mem_append_left _ he), h42 e he⟩
    have hel1 : ∀ e ∈ els1, e ∈ t2 ∧ @Ne Nat e.1 114 := fun e he => ⟨hs2 _ (by rw [et1]; exact .tail _ (List.mem_append_left _ he)), h41 e he⟩
    have hsr := pair_refs hP2 hel2
    have hmD2 : (D2, lstO (refsOf els2).toArray k2) ∈ t2 := by rw [et2]; exact .head _
    have hmD1 : (D1, lstO (refsOf els1).toArray k1) ∈ t2 := hs2 _ (by rw [et1]; exact .head _)
    refine host_c rfl rfl K0 (by k_asm) T0 Cd F7 l0 N7 e4 hmD2 hD2 (Mine.Paired.imp (fun r u ⟨a, o, e, h, g⟩ => ⟨a, o, e, h.1, h.2, g⟩) hsr) hRl hN4 (fun r hr => by rw [(hRp r hr).length_eq]; omega) ⟨tabObj #[], hs2 _ (hs1 _ h114), .inl rfl⟩ off2 fun D3 h4 tk4 k3 us t3 hg3 htab3 hP3 ho3 hq3 F8 N8 => ?_
    have N9 := news_sub N8 subH
    have off3 := off_new9 (o := lstO us.toArray k3) hq3 ho3
    have hs3 : ∀ p ∈ t2, @Ne Nat p.1 114 → p ∈ (D3, lstO us.toArray k3) :: t3 := fun p hp hn => .tail _ (hg3 p hp hn)
    clear F7 N7 N8
    show wpAny _ _ _ _ _ _
    refine rest2_c rfl rfl K0 (by k_asm) T0 F8 rfl N9 d9 d8 d7 d6 d5 e4 e3 d2 d1 ⟨hN2, hN4, hWl, hRl, hnx, hWp, hRp, hnd, hns⟩ ⟨hs3 _ (hs2 _ (hs1 _ hnl)) hn114, hs3 _ hmD1 hD1, hs3 _ hmD2 hD2, .head _, hsn, ?w1, ?w2, ?w3⟩ off3 (fun h5 tk5 m5 F5 k5 => hret h5 tk5 m5 F5 (tab_at htab3 k5)) hE
    (case w1 => exact Mine.Paired.imp (fun r u ⟨a, o, e, h, g⟩ => ⟨a, o, e, hs3 _ h.1 h.2, g⟩) (pair_refs hP1 hel1))
    (case w2 => exact Mine.Paired.imp (fun r u ⟨a, o, e, h, g⟩ => ⟨a, o, e, hs3 _ h.1 h.2, g⟩) hsr)
    (case w3 => exact Mine.Paired.imp (fun r u ⟨a, ss, e, hp, hh⟩ => ⟨a, ss, e, hp, hh.grow fun p hp _ => .tail _ hp⟩) hP3))
end Mine
end
section
open PySem PySem.W PyProof.Rows PySem.Calls
set_option maxRecDepth 100000
set_option maxHeartbeats 0
namespace Mine
theorem size_nat (n : Nat) : ∃ N : Nat, 2 ≤ N ∧ N ≤ 4 ∧ (if 2 + ((n : Int)).fdiv 4 < 4 then 2 + ((n : Int)).fdiv 4 else 4) = (N : Int) := by
  have h : 0 ≤ ((n : Int)).fdiv 4 := Int.fdiv_nonneg (by omega) (by decide)
  by_cases h1 : 2 + ((n : Int)).fdiv 4 < 4
  · exact ⟨(2 + ((n : Int)).fdiv 4).toNat, by omega, by omega, by rw [if_pos h1]; omega⟩
  · exact ⟨4, by decide, by decide, by rw [if_neg h1]; rfl⟩
theorem strs_take {vs : List Value} {xs : List Str} (h : StrsAre vs xs) : ∀ k : Nat, StrsAre (vs.take k) (xs.take k) := by
  induction h with
  | nil => intro k; cases k <;> exact .nil
  | cons x t _ ih =>
    intro k
    cases k with
    | zero => exact .nil
    | succ k => exact .cons _ _ (ih k)
abbrev names4 : List Str := [Str.ofString "", Str.ofString "kiwi", Str.ofString "plum", Str.ofString "pear"]
theorem names_facts {N : Nat} (h2 : 2 ≤ N) (h4 : N ≤ 4) : (names4.take N).length = N ∧ (names4.take N).Nodup ∧ ∀ x ∈ names4.take N, x.length ≤ 10 := by
  have : N = 2 ∨ N = 3 ∨ N = 4 := by omega
  rcases this with rfl | rfl | rfl <;> exact ⟨by decide, by decide, by decide⟩
theorem subT {n l4 c l2 d1 a9 a8 a7 a6 a5 a4 a3 a2 a1 p : Addr × Obj} : ∀ q ∈ a9 :: a8 :: a7 :: a6 :: a5 :: a4 :: a3 :: a2 :: a1 :: [n, l4, c, l2, d1, p], q ∈ [n, l4, c, l2, d1, a9, a8, a7, a6, a5, a4, a3, a2, a1, p] := sub_of [5, 6, 7, 8, 9, 10, 11, 12, 13, 0, 1, 2, 3, 4, 14] 15 rfl
theorem off_lt {L D : Addr} {o : Obj} {tl : List (Addr × Obj)} (h : OffC L tl) (hD : @LT.lt Nat _ (L + 9) D) : OffC L ((D, o) :: tl) := offR h hD
theorem off_gt {L D : Addr} {o : Obj} {tl : List (Addr × Obj)} (h : OffC L tl) (hD : @LT.lt Nat _ D L) : OffC L ((D, o) :: tl) :=
  OffC.cons h (near_ne hD 1) (near_ne hD 2) (near_ne hD 3) (near_ne hD 4) (near_ne hD 5) (near_ne hD 6) (near_ne hD 7) (near_ne hD 8) (near_ne hD 9)
local macro_rules | `(tactic| k_room) => `(tactic| ktr_room)
-- the walk keeps its table of lines as long as their number stays the same: R1 has two, so here stand three
local macro_rules | `(tactic| walk_at "no such step") => `(tactic| fail)
local macro_rules | `(tactic| walk_at "execs cons") => `(tactic| (k_here; (with_reducible show wpAny _ _ (execs (Stmt.Assign [Expr.Name (PySem.Str.ofString "wishes") _] _ _ :: _) _) _ _ _); refine hold_ ?_))
local macro_rules | `(tactic| walk_at "subscriptTail Name Slice ref ref") => `(tactic| (k_here; (with_reducible rename IntsAre _ (List.take 8 _ ++ _) => hX'); refine hold_ ?_))
local macro_rules | `(tactic| k_all) => `(tactic| assumption)
local macro_rules | `(tactic| k_get) => `(tactic| assumption)
theorem rest0_c {w : World} {fA : Addr} {cD : Value} {loose : List Str} {mean : ExcName → Option Value} {mg mb : Str → Option Value} {h₀ base : Heap} {L : Addr} {cs : Scope} {s : Shared}
  {ss : List Stmt} {sl : Addr} {sv : List Value} {ns : List Int} {o1 o2 o3 o4 o5 o6 o7 o8 o9 : Obj}
  {E : Value → Shared → Prop} {Q : Flow → Shared → Prop}
  (hsc : lawSc = cs) (hss : lawB = ss) (K0 : Below callerA base [] h₀) (X : (hd.heap_39 w.params).In h₀) (T0 : Top topProg loose mean mg mb h₀) (Cd : CodeHd h₀ 118 114)
  (hl : h₀.IsList sl sv.toArray) (hi : IntsAre sv ns) (hcond : ¬ (63 : Int) < (ns.length : Int))
  (F : Fr h₀ L s.heap (fun y => if y = Str.ofString "script" then some (.ref sl) else none)) (l0 : @LT.lt Nat _ 114 L)
  (Nw : News h₀ L s.heap [(L + 9, o9), (L + 8, o8), (L + 7, o7), (L + 6, o6), (L + 5, o5), (L + 4, o4), (L + 3, o3), (L + 2, o2), (L + 1, o1), (114, tabObj #[])])
  (d9 : o9.data = .cell none) (d8 : o8.data = .cell none) (d7 : o7.data = .cell none) (d6 : o6.data = .cell none) (d5 : o5.data = .cell none) (d4 : o4.data = .cell none) (d3 : o3.data = .cell none) (d2 : o2.data = .cell none) (d1 : o1.data = .cell none)
  (hret : ∀ (h' : Heap) (tk' : Nat) (m' : Str → Option Value), Fr h₀ L h' m' → (∃ ps, h'.get? 114 = some (tabObj ps)) → Q (.ret (.bool true)) { s with heap := h', toks := tk' })
  (hE : PassesOwn (model Challenge.rw_ij0195_02.row.prog w) (callerA.deeper (envOfC (Str.ofString "law") cs L fA cD)) (envOfC (Str.ofString "law") cs L fA cD) E) :
  wpAny (model Challenge.rw_ij0195_02.row.prog w) (callerA.deeper (envOfC (Str.ofString "law") cs L fA cD)) (execs ss (envOfC (Str.ofString "law") cs L fA cD)) Q E s := by
  w_strict (
   (revert X; k_fill; intro X)
   have hs1 : lawSt = .FunctionDef _ _ _ _ _ _ _ _ _ _ :: _ := rfl
   unfold lawSc at hsc
   rw [hs1] at hsc
   dsimp only [scOf] at hsc
   subst hsc
   have hb1 : lawB = [_, _, _, _, _, _, _, _, _, _, _, _] := rfl
   rw [hb1] at hss
   subst hss
   clear hs1 hb1
   k_steps
   refine of_hold ?_
   obtain ⟨N, hN2, hN4, hNe⟩ := size_nat ns.length
   with_reducible rename _ = Data.cell (some (Value.int _ _)) => dz
   rw [hNe] at dz ⊢
   with_reducible rename Fr _ _ _ _ => F1
   with_reducible rename News _ _ _ _ => N1
   with_reducible rename IntsAre _ (List.take 8 _ ++ _) => hX
   refine kms_slice_lit F1 N1 ⟨_, (N1 _ (.head _)).1, rfl, _, rfl⟩ .none (.int (N : Int) _) (pick_take (by exact hN4)) (fun D1 h2 F2 N2 l2 => ?_) (by with_unfolding_all rfl) (by intro _; with_unfolding_all rfl) (by rw [sizeLine_eq]; exact (by decide : 4 ≤ 16777216))
   clear F1 N1
   k_lt l2
   k_steps
   refine of_hold ?_
   with_reducible rename Fr _ _ _ _ => F3
   with_reducible rename News _ _ _ _ => N3
   have hXl := hX.length
   have hcl : ns.length ≤ 63 := by omega
   obtain ⟨g1, g2, g3⟩ := names_facts hN2 hN4
   refine rest1_c (s := ⟨_, _, _, _, _⟩) (nx := names4.take N) (N := N) (v9 := none) (v8 := none) (v7 := none) (v6 := none) (v5 := none) (v4 := none) (v3 := none) rfl rfl K0 (by k_asm) T0 Cd F3 (by assumption) (news_sub N3 subT) (by assumption) (by assumption) (by assumption) (by assumption) (by assumption) (by assumption) (by assumption) (by assumption) dz ?off (.tail _ (.tail _ (.tail _ (.tail _ (.tail _ (.head _)))))) (.head _) ?ne (strs_take (.cons _ _ (.cons _ _ (.cons _ _ (.cons _ _ .nil)))) N) (.tail _ (.tail _ (.head _))) hX ?c8 ?c16 hN2 hN4 g1 g2 g3 (fun h5 tk5 m5 F5 hg5 => ?ret) hE
   (case off =>
     exact off_lt (off_lt (off_lt (off_lt (off_lt (off_gt (fun p hp => by cases hp) (by assumption)) (And.left (b := _) (by assumption))) (And.left (And.right (a := _) (b := _ ∧ _) (by assumption)))) (And.left (And.right (And.right (a := _) (b := _ ∧ _ ∧ _) (by assumption))))) (And.left (And.right (And.right (And.right (a := _) (b := _ ∧ _ ∧ _ ∧ _) (by assumption)))))) l2.2.2.2.2.1)
   (case ne => exact Nat.ne_of_gt (Nat.lt_trans (by assumption) (Nat.lt_trans (Nat.lt_add_of_pos_right (by decide : 0 < 9)) l2.2.2.2.2.1)))
   (case c8 => rw [hXl, List.length_append]; exact Nat.le_add_left _ _)
   (case c16 =>
     rw [hXl, List.length_append]
     exact Nat.add_le_add (List.length_take_le 8 ns) (Nat.le_refl 8))
   (case ret => exact hret _ _ _ F5 hg5))
end Mine
end
section
open PySem PySem.W PyProof.Rows PySem.Calls
set_option maxRecDepth 100000
set_option maxHeartbeats 0
namespace Mine
theorem bindL_one {k : Str → Option NameKind} {n : Str} {v : Value} (h : k n = some .local) : bindL k [(n, v)] (fun _ => none) = fun y => if y = n then some v else none := by
  unfold bindL
  rw [if_pos h]
  rfl
theorem fr_one {g h : Heap} {L : Addr} {k : Str → Option NameKind} {n : Str} {v : Value} (F : Fr g L h (bindL k [(n, v)] fun _ => none)) (hk : k n = some .local) : Fr g L h (fun y => if y = n then some v else none) := by
  rw [bindL_one hk] at F; exact F
local macro_rules | `(tactic| k_room) => `(tactic| ktr_room)
local macro_rules | `(tactic| cells_open $x:ident) => `(tactic| (obtain ⟨_, _, _, _, _, _, _, _, _, he, _, _, _, _, _, _, _, _, _⟩ := Mine.kc_nine $x; subst he))
theorem the_law : PySem.Challenge.rw_ij0195_02.Holds := by
  refine Mine.hd ?_
  w_strict (
   k_go0; (all_goals try k_fold)
   with_reducible rename CellsAre _ _ _ => X0
   clear X0
   with_reducible rename PySem.W.Dflts _ _ _ _ _ _ => D0
   clear D0
   with_reducible rename Heap.CodeRec _ _ _ => D0
   clear D0
   with_reducible rename Fr _ _ _ _ => F0
   have F1 := fr_one (n := PySem.Str.ofString "script") F0 (by rfl)
   clear F0
   (with_reducible rename _ = PySem.Data.cell (bindC _ _ _ _) => d0; replace d0 : _ = PySem.Data.cell none := d0; have d1 := d0; clear d0)
   (with_reducible rename _ = PySem.Data.cell (bindC _ _ _ _) => d0; replace d0 : _ = PySem.Data.cell none := d0; have d2 := d0; clear d0)
   (with_reducible rename _ = PySem.Data.cell (bindC _ _ _ _) => d0; replace d0 : _ = PySem.Data.cell none := d0; have d3 := d0; clear d0)
   (with_reducible rename _ = PySem.Data.cell (bindC _ _ _ _) => d0; replace d0 : _ = PySem.Data.cell none := d0; have d4 := d0; clear d0)
   (with_reducible rename _ = PySem.Data.cell (bindC _ _ _ _) => d0; replace d0 : _ = PySem.Data.cell none := d0; have d5 := d0; clear d0)
   (with_reducible rename _ = PySem.Data.cell (bindC _ _ _ _) => d0; replace d0 : _ = PySem.Data.cell none := d0; have d6 := d0; clear d0)
   (with_reducible rename _ = PySem.Data.cell (bindC _ _ _ _) => d0; replace d0 : _ = PySem.Data.cell none := d0; have d7 := d0; clear d0)
   (with_reducible rename _ = PySem.Data.cell (bindC _ _ _ _) => d0; replace d0 : _ = PySem.Data.cell none := d0; have d8 := d0; clear d0)
   (with_reducible rename _ = PySem.Data.cell (bindC _ _ _ _) => d0; replace d0 : _ = PySem.Data.cell none := d0; have d9 := d0; clear d0)
   with_reducible rename News _ _ _ _ => N1
   with_reducible rename Below callerA _ _ _ => K0
   with_reducible rename Top topProg _ _ _ _ _ => T0
   refine rest0_c (s := ⟨_, _, _, _, _⟩) rfl rfl K0 (by k_asm) T0 codeHd lifted (by assumption) (by assumption) F1 (by assumption) N1 (by assumption) (by assumption) (by assumption) (by assumption) (by assumption) (by assumption) (by assumption) (by assumption) (by assumption) (fun h5 tk5 m5 F5 hg5 => ?ret) (by passes_own)
   (case ret =>
     clear N1 F1
     (try dsimp only)
     refine ⟨?_, hg5, trivial⟩
     (k_end; kc_close)))
end Mine
theorem PySem.Challenge.cw_ij0195_02_holds : PySem.Challenge.rw_ij0195_02.Holds :=
  Mine.the_law
end
