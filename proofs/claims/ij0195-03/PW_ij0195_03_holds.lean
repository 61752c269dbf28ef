import PyProof.Rows.All
import Wide.All
import OpenK.AllK
import Wide.FinOn
import Lean
import PySem.Challenge.RW_ij0195_03
set_option Elab.async false
section
open PySem PySem.W PyProof.Rows
set_option maxRecDepth 100000
set_option maxHeartbeats 0
namespace Mine
open_top hd for PySem.Challenge.rw_ij0195_03
end Mine
end
section
open PySem PySem.W PyProof.Rows PySem.Calls
set_option maxRecDepth 100000
namespace Mine
section
variable {prog : Program} {w : World} {A A₀ : Around} {s : Shared} {base h₀ : Heap} {outer : List Env} {L : Addr} {m mg mb : Str → Option Value} {env : Env} {K : Frag} {p : Program} {loose : List Str} {mean : ExcName → Option Value}
  {R : Result → Shared → Prop} {name qual : Str} {params : Arguments} {body : List Stmt} {scope : Scope} {dV kV doc pm cdv ct oc : Value} {an od : Option Addr} {osl : Array (Option Value)} {f : Addr} {args : Args} {binds : List (Str × Value)}

/-- enter a def with everything that stands as its ground -/
theorem callP (B : Below A₀ base outer h₀) (F : Fr h₀ L s.heap m) (X₀ : K.In h₀) (T : Top p loose mean mg mb h₀) (hA : A.frames = some (env :: outer)) (hf : env.frame = some L) (hke : env.scope.kind = .function)
    (ho : K.lookup f = some ⟨oc, od, .func (fnOf name qual params body scope dV kV doc pm an cdv ct), osl⟩) (hcd : codeIn K cdv qual = true) (hroom : A.depth < recursionLimit)
    (hbind : BindsTo s (fnOf name qual params body scope dV kV doc pm an cdv ct) args binds) (hloc : ∀ y ∈ binds, scope.names.lookup y.1 = some .local)
    (h : ∀ L' h₁, Fr s.heap L' h₁ (fun y => binds.reverse.lookup y) → News s.heap L' h₁ [] → Below A base (env :: outer) s.heap → K.In s.heap → Top p loose mean mg mb s.heap →
      wpAny (model prog w) (A.deeper (envOf qual scope L' f cdv)) (execs body (envOf qual scope L' f cdv))
        (fun fl s' => R (.ok (.ret (match fl with | .ret v => v | _ => .none))) s')
        (fun e s' => wpAny (model prog w) (A.deeper (envOf qual scope L' f cdv)) (leaving (envOf qual scope L' f cdv) e) (fun _ s'' => R (.error e) s'') (fun e' s'' => R (.error e') s'') s')
        { s with heap := h₁, toks := s.toks + binds.length })
    (hco : scope.isCoroutine = false) (hgen : scope.isGenerator = false) (hk : scope.kind = .function)
    (hcell : ∀ x ∈ scope.names, x.2 ≠ .cell) : codeAny (model prog w) A (.call (.ref f) args) R s := by
  have X := X₀.keeps F.keep
  have T' := T.keeps F.keep
  have B₁ := pushX B F hf hke
  refine codeAny_call_def (fd := fnOf name qual params body scope dV kV doc pm an cdv ct) (body := body) (binds := binds) hroom (X _ _ ho) rfl T'.nolimit (codeRec_of X hcd) rfl hbind hcell hloc (fun h₁ hns hk₁ => ?_) hco hgen hk
  exact h s.heap.objs.size h₁ ⟨hns, hk₁, Nat.le_refl _⟩ News.nil ⟨hA, B₁.stays, B₁.frames⟩ X T'

theorem callPC (B : Below A₀ base outer h₀) (F : Fr h₀ L s.heap m) (X₀ : K.In h₀) (T : Top p loose mean mg mb h₀) (hA : A.frames = some (env :: outer)) (hf : env.frame = some L) (hke : env.scope.kind = .function)
    (ho : K.lookup f = some ⟨oc, od, .func (fnOf name qual params body scope dV kV doc pm an cdv ct), osl⟩) (hcd : codeIn K cdv qual = true) (hroom : A.depth < recursionLimit)
    (hbind : BindsTo s (fnOf name qual params body scope dV kV doc pm an cdv ct) args binds)
    (hkind : ∀ n, ∀ x ∈ binds, scope.names.lookup x.1 = some .local ∨ (scope.names.lookup x.1 = some .cell ∧ ((cellsFrom n scope.names []).lookup x.1).isSome = true))
    (hnd : ((cellsFrom 0 scope.names []).map (·.1)).Nodup)
    (h : ∀ L' h₁ tk cells, Fr s.heap L' h₁ (bindL (envOfC qual scope L' f cdv).kindOf binds fun _ => none) → News s.heap L' h₁ cells →
      CellsAre (bindC (envOfC qual scope L' f cdv).kindOf binds fun _ => none) (cellsFrom (L' + 1) scope.names []) cells → Below A base (env :: outer) s.heap → K.In s.heap → Top p loose mean mg mb s.heap →
      wpAny (model prog w) (A.deeper (envOfC qual scope L' f cdv)) (execs body (envOfC qual scope L' f cdv))
        (fun fl s' => R (.ok (.ret (match fl with | .ret v => v | _ => .none))) s')
        (fun e s' => wpAny (model prog w) (A.deeper (envOfC qual scope L' f cdv)) (leaving (envOfC qual scope L' f cdv) e) (fun _ s'' => R (.error e) s'') (fun e' s'' => R (.error e') s'') s')
        { s with heap := h₁, toks := tk })
    (hco : scope.isCoroutine = false) (hgen : scope.isGenerator = false) (hk : scope.kind = .function) : codeAny (model prog w) A (.call (.ref f) args) R s := by
  have X := X₀.keeps F.keep
  have T' := T.keeps F.keep
  have B₁ := pushX B F hf hke
  refine codeAny_call_function hroom (X _ _ ho) rfl hco hgen rfl (codeRec_of X hcd) (hbind _ _ _ _ ?_)
  refine wpAny_newFunctionEnv_cells hk (hkind _) fun env' he s' x => ?_
  subst he
  refine ⟨T'.nolimit.keeps x.toInCall.keep, codeAny_func ?_⟩
  obtain ⟨h₁, tk, rfl, _⟩ := x.done
  have hk₁ := x.toInCall.keep
  obtain ⟨cells, NC, Y⟩ := Cl.news (h₀ := s.heap) (Nat.le_refl _) fun n c hm => ⟨x.cell n c (lookup_of_mem_nodup (cellsFrom_names scope.names 0 (s.heap.objs.size + 1) [] [] rfl ▸ hnd) hm), x.above n c hm⟩
  exact h s.heap.objs.size h₁ tk cells ⟨x.toInCall.ns, hk₁, Nat.le_refl _⟩ NC Y ⟨hA, B₁.stays, B₁.frames⟩ X T'
end
theorem inst_up {h h' : Heap} {x C : Addr} {ox : Obj} {od : Option Obj} (I : InstAt h x ox C od) (k : ∀ b o, h.get? b = some o → h'.get? b = some o) : InstAt h' x ox C od := by
  refine ⟨k _ _ I.at_, I.cls, I.no, ?_⟩
  have q := I.dict
  revert q
  cases ox.dict <;> cases od <;> simp only [] <;> first | exact id | exact k _ _
section
variable {prog : Program} {w : World} {A : Around} {E : Value → Shared → Prop} {s : Shared} {env : Env} {h₀ : Heap} {x : Str} {body : List Stmt} {Q : Flow → Shared → Prop}
/-- a for over a list that stands: the turn stores its own name alone; J tells what the turns so far say -/
theorem iter_find {l : Addr} {vs : List Value} {m₀ : Str → Option Value} {news : List (Addr × Obj)} (J : Nat → Prop)
    (hh : A.handled = none) (hl : h₀.IsList l vs.toArray) (F : Fr h₀ env.locals s.heap m₀) (N : News h₀ env.locals s.heap news) (hj : J 0)
    (turn : ∀ i v h tk own, vs[i]? = some v → J i → Fr h₀ env.locals h (fun y => if y = x then some v else m₀ y) → News h₀ env.locals h (own ++ news) →
      wpAny (model prog w) A (execs body env) (InvPost h₀ env.locals (fun m' => J (i + 1) ∧ ∀ z, z ≠ x → m' z = m₀ z) (own ++ news) { s with heap := h, toks := tk } Q) E { s with heap := h, toks := tk })
    (done : ∀ (u : Str → Option Value) h tk, J vs.length → Fr h₀ env.locals h (fun z => if z = x then u z else m₀ z) → News h₀ env.locals h news → Q .next { s with heap := h, toks := tk }) :
    wpAny (model prog w) A (pyIter (.ref l)) (fun it s₂ => LoopAtV prog w A h₀ env x body Q E it s₂) E s := by
  have hls : s.heap.IsList l vs.toArray := hl.at fun o e => F.keep l o e
  obtain ⟨ol, hol, _⟩ := id hl
  have hlt : l < h₀.objs.size := Heap.lt_size hol
  have hne : l ≠ s.heap.objs.size := Nat.ne_of_lt (Nat.lt_trans (Nat.lt_of_lt_of_le hlt F.above) F.ns.lt)
  refine wpAny_pyIter_list hls ?_
  have W := Walks.list (prog := prog) (w := w) hh s.heap.objs.size l hne vs.toArray
  have hlen : vs.toArray.size = vs.length := by simp
  rw [hlen] at W
  let J' : Nat → (Str → Option Value) → List (Addr × Obj) → Prop := fun i m₁ news₁ => news₁ = news ∧ J i ∧ ∀ z, z ≠ x → m₁ z = m₀ z
  refine ⟨_, _, _, vs.length, _, _, m₀, news, J', rfl, W, ?_, ?_, ?_, ⟨⟨_, Heap.get?_push_size _ rfl, rfl, rfl⟩, hls.at fun o e => Heap.get?_push_of_some _ e⟩, F.push _, (fun p hp => ⟨Heap.get?_push_of_some _ (N p hp).1, (N p hp).2⟩), ⟨rfl, hj, fun _ _ => rfl⟩, ?_, ?_⟩
  · intro hm
    rcases List.mem_cons.mp hm with e | hm
    · exact absurd F.ns.lt (e ▸ Nat.lt_irrefl _)
    · exact absurd (Nat.lt_of_lt_of_le hlt F.above) ((List.mem_singleton.mp hm) ▸ Nat.lt_irrefl _)
  · intro b hb
    rw [List.mem_singleton.mp hb]
    exact next_is_new F
  · intro p hp hI
    exact absurd (Heap.lt_size (N p hp).1) ((List.mem_singleton.mp hI) ▸ Nat.lt_irrefl _)
  · rintro i v m₁ news₁ s₁ own ⟨hh', tk', rfl⟩ hin hP ⟨rfl, hJ, hm₁⟩ hoff _ _ _ _ F₁ N₁
    have hv : vs[i]? = some v := by simpa using hP
    have e₁ : (fun y => if y = x then some v else m₁ y) = fun y => if y = x then some v else m₀ y := by
      funext z
      by_cases h1 : z = x
      · simp [h1]
      · simp only [if_neg h1]; exact hm₁ z h1
    rw [e₁] at F₁
    refine wpAny_mono (turn i v hh' tk' own hv hJ F₁ N₁) (fun f s₂ p => ?_) fun _ _ e => e
    have fin : InvEnd h₀ env.locals (fun m' => J (i + 1) ∧ ∀ z, z ≠ x → m' z = m₀ z) (own ++ news₁) { s with heap := hh', toks := tk' } s₂ → LoopStepU h₀ env.locals [s.heap.objs.size] own (J' (i + 1)) { s with heap := hh', toks := tk' } .next s₂ := by
      rintro ⟨h', tk, m', news', e, F', N', hn, hm⟩
      exact ⟨rfl, h', tk, m', news₁, e, F', fun p hp => N' p (hn p hp), hoff, rfl, hm⟩
    cases f with
    | ret v => exact .ret p
    | brk => exact .brk p
    | next => exact .next (fin p)
    | cont => exact .cont (fin p)
  · rintro h' tk m' news' F' N' _ ⟨rfl, hJ, hm'⟩
    refine done m' h' tk hJ ?_ N'
    have e : (fun z => if z = x then m' z else m₀ z) = m' := by
      funext z
      by_cases h1 : z = x
      · simp [h1]
      · simp only [if_neg h1]; exact (hm' z h1).symm
    rw [e]; exact F'
end

def TurnEnd (P : Shared → Prop) (Q : Flow → Shared → Prop) (f : Flow) (s : Shared) : Prop := match f with
  | .next => P s
  | .cont => P s
  | .brk => Q .next s
  | .ret v => Q (.ret v) s
section
variable {prog : Program} {w : World} {A : Around} {E : Value → Shared → Prop} {s : Shared} {env : Env} {body : List Stmt} {Q : Flow → Shared → Prop}
theorem while_true {k : Nat} {p pos : Pos} (I : Nat → Shared → Prop)
    (turn : ∀ n s, I n s → wpAny (model prog w) A (execs body env) (TurnEnd (fun s' => ∃ m, m < n ∧ I m s') Q) E s) (n : Nat) (h : I n s)
    (hE : PassesOwn (model prog w) A env E := by passes_own) :
    wpAny (model prog w) A (exec (.While (.Constant (.bool true) k p) body [] pos) env) Q E s := by
  refine wpAny_While (codeAny_whileLoop (R := fun r s' => match r with | .ok f => Q f s' | .error e => cameBackBy (model prog w) A env E e s') I (fun n s hI => ?_) n h)
  refine wpAny_isTrue_value (wpAny_Constant_bool (wpAny_truthy_bool ?_))
  rw [if_pos rfl]
  refine wpAny_mono (turn n s hI) (fun f s₃ h₃ => ?_) hE
  cases f <;> exact h₃

theorem below_max {A : Around} {base h : Heap} {outer : List Env} (B : Below A base outer h) : Below A (hideAll h (outer.filterMap (·.frame))) outer h :=
  ⟨B.stack, fun b o q => of_hideAll _ q, funFrames_hide B.frames fun env he b hb => List.mem_filterMap.mpr ⟨env, he, hb⟩⟩
end

def Hold (P : Prop) : Prop := P
theorem hold_ {P : Prop} (h : Hold P) : P := h
theorem of_hold {P : Prop} (h : P) : Hold P := h

def LedEnd (g : Heap) (L : Addr) (m₀ : Str → Option Value) (x : Str) (led : Nat → List (Addr × Obj)) (P : Nat → Prop) (i len : Nat) (s s' : Shared) : Prop :=
  ∃ (h' : Heap) (tk' : Nat) (u' : Str → Option Value), i < len ∧ P (i + 1) ∧ s' = { s with heap := h', toks := tk' } ∧ Fr g L h' (fun z => if z = x then u' z else m₀ z) ∧ News g L h' (led (i + 1))
section
variable {prog : Program} {w : World} {A : Around} {E : Value → Shared → Prop} {s : Shared} {env : Env} {body : List Stmt} {Q : Flow → Shared → Prop}
theorem while_led {k : Nat} {p pos : Pos} {g : Heap} {m₀ : Str → Option Value} {x : Str} (led : Nat → List (Addr × Obj)) (P : Nat → Prop) (len i₀ : Nat) (F : Fr g env.locals s.heap m₀) (N : News g env.locals s.heap (led i₀)) (hP : P i₀) (hi : i₀ ≤ len)
    (turn : ∀ (i : Nat) (u : Str → Option Value) (h : Heap) (tk : Nat), i ≤ len → P i → Fr g env.locals h (fun z => if z = x then u z else m₀ z) → News g env.locals h (led i) →
      wpAny (model prog w) A (execs body env) (TurnEnd (LedEnd g env.locals m₀ x led P i len { s with heap := h, toks := tk }) Q) E { s with heap := h, toks := tk })
    (hE : PassesOwn (model prog w) A env E := by passes_own) :
    wpAny (model prog w) A (exec (.While (.Constant (.bool true) k p) body [] pos) env) Q E s := by
  refine while_true (fun n s' => ∃ (h : Heap) (tk : Nat) (u : Str → Option Value) (i : Nat), n = len - i ∧ i ≤ len ∧ P i ∧ s' = { s with heap := h, toks := tk } ∧ Fr g env.locals h (fun z => if z = x then u z else m₀ z) ∧ News g env.locals h (led i)) ?_ (len - i₀) ⟨s.heap, s.toks, m₀, i₀, rfl, hi, hP, rfl, ?_, N⟩ hE
  · rintro n s' ⟨h, tk, u, i, rfl, hi, hP, rfl, F', N'⟩
    refine wpAny_mono (turn i u h tk hi hP F' N') (fun f s₃ h₃ => ?_) fun _ _ e => e
    have fin : LedEnd g env.locals m₀ x led P i len { s with heap := h, toks := tk } s₃ → ∃ m, m < len - i ∧ ∃ (h : Heap) (tk : Nat) (u : Str → Option Value) (j : Nat), m = len - j ∧ j ≤ len ∧ P j ∧ s₃ = { s with heap := h, toks := tk } ∧ Fr g env.locals h (fun z => if z = x then u z else m₀ z) ∧ News g env.locals h (led j) := by
      rintro ⟨h', tk', u', hlt, hP', rfl, F'', N''⟩
      exact ⟨len - (i + 1), by omega, h', tk', u', i + 1, rfl, hlt, hP', rfl, F'', N''⟩
    cases f with
    | next => exact fin h₃
    | cont => exact fin h₃
    | brk => exact h₃
    | ret v => exact h₃
  · have e : (fun z => if z = x then m₀ z else m₀ z) = m₀ := by funext z; split <;> rfl
    rw [e]; exact F
end

theorem fr_over {g h : Heap} {L : Addr} {x : Str} {v : Option Value} {u m₀ : Str → Option Value} (F : Fr g L h (fun z => if z = x then v else (if z = x then u z else m₀ z))) : Fr g L h (fun z => if z = x then (fun _ => v) z else m₀ z) := by
  have e : (fun z => if z = x then v else (if z = x then u z else m₀ z)) = fun z => if z = x then (fun _ => v) z else m₀ z := by
    funext z
    by_cases hz : z = x
    · simp [hz]
    · simp [hz]
  rw [e] at F; exact F
end Mine
end
section
open PySem PySem.W PyProof.Rows
set_option maxRecDepth 100000
set_option maxHeartbeats 0
namespace Mine
abbrev Strs := StrsAre
theorem strs_get {vs : List Value} {xs : List Str} (h : Strs vs xs) : ∀ {i : Nat} {v : Value}, vs[i]? = some v → ∃ x t, xs[i]? = some x ∧ v = .str x t := by
  induction h with
  | nil => intro i v e; simp at e
  | @cons x t vs xs _ ih =>
    intro i v e
    cases i with
    | zero => exact ⟨x, t, rfl, (Option.some.inj e).symm⟩
    | succ i => exact ih e
def headPart (u : Str) : Str := ((Txt.split u (Str.ofString "/"))[0]?).getD u
theorem headPart_of {u y : Str} {xs : List Str} (e : xs = Txt.split u (Str.ofString "/")) (h : xs[Int.toNat 0]? = some y) : y = headPart u := by
  subst e; unfold headPart; show y = (((Txt.split u (Str.ofString "/"))[Int.toNat 0]?).getD u); rw [h]; rfl
def hasIn (u x : Str) : Bool := !(Builtin.Str.occurrences u x 0 u.length 1).isEmpty
def hits (u x : Str) : Bool := !(x == Str.ofString "*") && hasIn (Txt.lower (headPart u)) (Txt.lower x)
local macro_rules | `(tactic| k_get) => `(tactic| assumption)
theorem hits_no1 {u x : Str} (h : (x != Str.ofString "*") = false) : hits u x = false := by
  unfold hits
  have : (x == Str.ofString "*") = true := by simpa using h
  rw [this]; rfl
theorem hits_no2 {u x y : Str} (e : y = headPart u) (h : (Builtin.Str.occurrences (Txt.lower y) (Txt.lower x) 0 (Txt.lower y).length 1).isEmpty = true) : hits u x = false := by subst e; unfold hits hasIn; rw [h]; simp
theorem hits_yes {u x y : Str} (e : y = headPart u) (h1 : (x != Str.ofString "*") = true) (h : (Builtin.Str.occurrences (Txt.lower y) (Txt.lower x) 0 (Txt.lower y).length 1).isEmpty = false) : hits u x = true := by
  subst e; unfold hits hasIn; rw [h]
  have : (x == Str.ofString "*") = false := by simpa using h1
  rw [this]; rfl
theorem any_yes {α : Type} {p : α → Bool} {xs : List α} {i : Nat} {x : α} (hx : xs[i]? = some x) (h : p x = true) : xs.any p = true := List.any_eq_true.mpr ⟨x, List.mem_of_getElem? hx, h⟩
theorem any_no {α : Type} {p : α → Bool} {xs : List α} (h : ∀ x ∈ xs, p x = false) : xs.any p = false := List.any_eq_false.mpr fun x hx => by rw [h x hx]; decide
theorem take_step {α : Type} {p : α → Prop} {xs : List α} {i : Nat} {x : α} (hJ : ∀ x ∈ xs.take i, p x) (hx : xs[i]? = some x) (h : p x) : ∀ x ∈ xs.take (i + 1), p x := by
  intro z hz
  rw [List.take_add_one, hx] at hz
  rcases List.mem_append.mp hz with q | q
  · exact hJ z q
  · simp at q; exact q ▸ h
theorem strs_length {vs : List Value} {xs : List Str} (h : Strs vs xs) : vs.length = xs.length := by induction h with | nil => rfl | cons _ _ _ ih => simp [ih]
local macro_rules | `(tactic| k_inst) => `(tactic| exact inst_up (by assumption) (Fr.keep (by k_asm)))
local macro_rules | `(tactic| walk_at "call builtin:str.lower") => `(tactic| ((with_reducible rename (∀ a, a ∈ _ → Str.length a ≤ _) => hs'); (have hk' := hs' _ (List.mem_of_getElem? (by assumption))); (refine SCL.lower (by omega) ?_); intro _))
theorem applies_c {w : World} {loose : List Str} {mean : ExcName → Option Value} {mg mb : Str → Option Value}
  {dp un : Nat} {gd : Option (List Code)} {cn : Str} {cs : Scope} {a : Addr} {ccd : Value} {cl : List (Str × Addr)} {outer : List Env} {A₀ : Around} {base h₀ : Heap} {L : Addr} {m : Str → Option Value} {s : Shared} {Q E : Value → Shared → Prop}
  {one d l : Addr} {es : List DictEntry} {n : Nat} {sl : Array (Option Value)} {vs : List Value} {xs : List Str} {u : Str} {tk : Tok}
  (B : Below A₀ base outer h₀) (F : Fr h₀ L s.heap m) (X : (hd.heap_39 w.params).In h₀) (T : Top hd.view_39 loose mean mg mb h₀) (hk : cs.kind = .function) (hdp : dp + 1 < recursionLimit) (hun : un + 8 < cLine)
  (I : InstAt s.heap one ⟨.ref 59, some d, .plain, sl⟩ 59 (some (dictOf es n)))
  (he : getL "useragents" es = some (some (.ref l)))
  (hu : u.length ≤ 100000) (hl : s.heap.IsList l vs.toArray) (hs : Strs vs xs) (hxs : ∀ x ∈ xs, x.length ≤ 100000)
  (hret : ∀ h' tk', s.heap.StaysIn h' → Q (.bool (xs.any (hits u))) { s with heap := h', toks := tk' }) :
  wpAny (model Challenge.rw_ij0195_03.row.prog w) (ktrTop dp un gd cn cs L a ccd cl outer) (call (.ref 49) [.ref one, .str u tk]) Q E s := by
  w_strict (
    (revert X; k_fill; intro X)
    refine wpAny_call ?_
    refine' callP ?k1 ?k2 ?k3 ?k5 ?kA ?kF ?kK ?k6 ?k7 ?k8 ?k9 ?kB ?_ ?c2 ?c3 ?c4 ?c5
    (case kA => exact rfl); (case kF => exact rfl); (case kK => assumption); (case k1 => k_asm); (case k2 => k_asm); (case k3 => k_asm); (case k5 => k_asm); (case k6 => k_is); (case k7 => k_is); (case k8 => ktr_room); (case k9 => exact BindsTo.of_eq rfl); (case c5 => decide); (case kB => exact locs rfl); (case c2 => exact rfl); (case c3 => exact rfl); (case c4 => exact rfl)
    k_whole
    intro L' h' F' N' B' X' T'
    (try dsimp only)
    (try k_lift B')
    (try k_fold)
    k_steps
    (all_goals (with_unfolding_all refine' iter_find (fun i => ∀ x ∈ xs.take i, hits u x = false) ?i1 ?i2 ?i3 ?i4 ?i5 ?i6 ?i7))
    (case i1 => exact rfl)
    (case i2 => assumption)
    (case i3 => k_asm)
    (case i4 => k_asm)
    (case i5 => (intro x hx; simp at hx))
    (case i6 =>
      intro i v h2 tk2 own hv hJ F2 N2
      (obtain ⟨x, t, hx, e⟩ := strs_get hs hv)
      subst e
      have hb := hxs _ (List.mem_of_getElem? hx)
      (try dsimp only)
      (try k_fold)
      k_steps
      all_goals (have ey := headPart_of (u := u) (by assumption) (by assumption))
      all_goals first
        | (refine InvEnd.intro (by assumption) (by assumption) (by first | k_sub | exact fun p hp => hp) ⟨take_step hJ hx (by first | exact hits_no1 (by assumption) | exact hits_no2 ey (by assumption)), ?_⟩; (intro z hz; first | rfl | (simp [hz]; done)))
        | ((have ea := any_yes hx (hits_yes ey (by assumption) (by assumption))); (rw [ea] at hret); exact hret _ _ (Fr.keep (by assumption))))
    (case i7 =>
      intro u2 h2 tk2 hJ F2 N2
      (try dsimp only)
      (try k_fold)
      k_steps
      have ea := any_no (p := hits u) (xs := xs) (by rw [strs_length hs, List.take_length] at hJ; exact hJ)
      rw [ea] at hret
      exact hret _ _ (Fr.keep (by assumption))))
end Mine
end
section
open PySem PySem.W PyProof.Rows PySem.Calls
set_option maxRecDepth 100000
set_option maxHeartbeats 0
namespace Mine
def boundIn (l : Addr) : Obj := { cls := .type "method-wrapper", data := .fields #[.builtin "list.__contains__", .ref l] }
theorem lk_list_contains : typeLookup (.type "list") "__contains__" = pure (some (.builtin "list.__contains__")) := by rw [typeLookup_type, builtinLookup_eq_fast]; kernel_rfl
theorem type_lc : typeOf (.builtin "list.__contains__") = pure (.type "wrapper_descriptor") := by show builtinType _ = _; rw [builtinType_eq_fast]; kernel_rfl
theorem slot_wd_get : Slot "wrapper_descriptor" "__get__" "wrapper_descriptor.__get__" :=
  .of (owner := "wrapper_descriptor") (n := "__get__") (by rw [typeLookup_type, builtinLookup_eq_fast]; kernel_rfl) (by decide +kernel) (by decide +kernel) (by decide +kernel)
    (by first | exact .inl (by decide +kernel) | exact .inr (by decide +kernel)) (by rw [isSubtype_type]; kernel_rfl)
theorem wd_no_set : typeLookup (.type "wrapper_descriptor") "__set__" = pure none := by rw [typeLookup_type, builtinLookup_eq_fast]; kernel_rfl
theorem wd_no_del : typeLookup (.type "wrapper_descriptor") "__delete__" = pure none := by rw [typeLookup_type, builtinLookup_eq_fast]; kernel_rfl
theorem entry_wd_get : entryFor table "wrapper_descriptor.__get__" = some Builtin.«wrapper_descriptor.__get__» := entryFor_of_tree (by kernel_rfl)
theorem args_wd_get (a b c : Value) : argsOk "wrapper_descriptor.__get__" ⟨[a, b, c], []⟩ := by unfold argsOk; kernel_rfl
theorem type_wd : typeOf (.builtin "wrapper_descriptor.__get__") = pure (.type "wrapper_descriptor") := by show builtinType _ = _; rw [builtinType_eq_fast]; kernel_rfl
theorem list_no_getattr : typeLookup (.type "list") "__getattr__" = pure none := list_getattr_none
theorem owner_lc : ".".intercalate ("list.__contains__".cutAt '.').dropLast = "list" := by first | rfl | decide +kernel | kernel_rfl
section
variable {prog : Program} {w : World} {A : Around} {E : Value → Shared → Prop} {s : Shared} {h : Heap} {g : Array GenState} {d : Drawn} {t : Nat} {os : OsState} {a : Addr} {o : Obj}
theorem wd_get_run {Q : Fin → Shared → Prop} (hx : h.get? a = some o) (hc : o.cls = .type "list") (hq : Q (.done (.ret (.ref h.objs.size))) ⟨h.push (boundIn a), g, d, t, os⟩) :
    wpAny (model prog w) A (Builtin.«wrapper_descriptor.__get__» ⟨[.builtin "list.__contains__", .ref a, .type "list"], []⟩) Q E ⟨h, g, d, t, os⟩ := by
  have hT : (⟨h, g, d, t, os⟩ : Shared).TypeIs (.ref a) "list" := ⟨_, hx, hc⟩
  have f8 : isSubtype (.type "list") (.type "list") = pure true := sub_list_self
  unfold Builtin.«wrapper_descriptor.__get__»
  repeat (any_goals (first | assumption | wp_step))
  rw [owner_lc]
  repeat (any_goals (first | assumption | wp_step))
theorem wd_get_call {Q : Value → Shared → Prop} (hx : h.get? a = some o) (hc : o.cls = .type "list") (hq : Q (.ref h.objs.size) ⟨h.push (boundIn a), g, d, t, os⟩) :
    wpAny (model prog w) A (call (.builtin "wrapper_descriptor.__get__") [.builtin "list.__contains__", .ref a, .type "list"]) Q E ⟨h, g, d, t, os⟩ :=
  wpAny_call_entry slot_wd_get type_lc entry_wd_get (wd_get_run hx hc ⟨_, rfl, hq⟩) (args_wd_get _ _ _)
theorem lga_run {tk : Tok} {xs : Array Value} {k : Nat} {sl : Array (Option Value)} {Q : Fin → Shared → Prop} (hx : h.get? a = some { cls := .type "list", dict := none, data := .seq xs k, slots := sl }) (hq : Q (.done (.ret (.ref h.objs.size))) ⟨h.push (boundIn a), g, d, t, os⟩) :
    wpAny (model prog w) A (Builtin.«object.__getattribute__» ⟨[.ref a, .str "__contains__" tk], []⟩) Q E ⟨h, g, d, t, os⟩ := by
  have hT : (⟨h, g, d, t, os⟩ : Shared).TypeIs (.ref a) "list" := ⟨_, hx, rfl⟩
  have f4 := lk_list_contains
  have f5 := type_lc
  have f6 := slot_wd_get.lookup
  have f7 := wd_no_set
  have f9 := wd_no_del
  unfold Builtin.«object.__getattribute__»
  repeat (any_goals (first | assumption | ((with_reducible show wpAny _ _ (call (Value.builtin "wrapper_descriptor.__get__") _ _) _ _ _); refine wd_get_call hx rfl ?_) | wp_step))
theorem lga_call {tk : Tok} {xs : Array Value} {k : Nat} {sl : Array (Option Value)} {R : Result → Shared → Prop} (hx : h.get? a = some { cls := .type "list", dict := none, data := .seq xs k, slots := sl }) (hq : R (.ok (.ret (.ref h.objs.size))) ⟨h.push (boundIn a), g, d, t, os⟩) :
    codeAny (model prog w) A (.call (.builtin "list.__getattribute__") ⟨[.ref a, .str "__contains__" tk], []⟩) R ⟨h, g, d, t, os⟩ :=
  codeAny_call_builtin F.slot_list_getattribute.plain F.entry_list_ga (F.slot_list_getattribute.check _ _ _ _ _ _ _ _ (show (⟨h, g, d, t, os⟩ : Shared).TypeIs (.ref a) "list" from ⟨_, hx, rfl⟩) (F.args_list_getattribute_2 _ _) (lga_run hx hq))
theorem getattr_contains {xs : Array Value} {k : Nat} {sl : Array (Option Value)} {Q : Value → Shared → Prop} (hx : h.get? a = some { cls := .type "list", dict := none, data := .seq xs k, slots := sl }) (hq : Q (.ref h.objs.size) ⟨h.push (boundIn a), g, d, t + 1, os⟩) :
    wpAny (model prog w) A (getAttr (.ref a) "__contains__" true) Q E ⟨h, g, d, t, os⟩ := by
  have hT : ∀ tk', (⟨h, g, d, tk', os⟩ : Shared).TypeIs (.ref a) "list" := fun _ => ⟨_, hx, rfl⟩
  have f3 := F.slot_list_getattribute.lookup
  have f4 := F.slot_list_getattribute.bind (.ref a)
  unfold getAttr getAttrBy
  repeat (any_goals (first | assumption | exact hT _ | ((with_reducible show codeAny _ _ (Code.call (Value.builtin "list.__getattribute__") _) _ _); refine lga_call hx ?_) | wp_step))
theorem check_lc (l : Addr) (v : Value) : checkBoundCall "list.__contains__" ⟨[.ref l, v], []⟩ = pure () := by first | kernel_rfl | rfl
theorem quiet_lc {as : Args} : (Code.builtin "list.__contains__" as).quiet = true := Code.quiet_builtin _ (by decide +kernel)
theorem call_contains {x l : Addr} {vs : List Value} {ys : List Str} {kk : Str} {tk : Tok} {s : Shared} {Q : Value → Shared → Prop} (ho : s.heap.get? x = some (boundIn l)) (hl : s.heap.IsList l vs.toArray) (hi : StrsAre vs ys)
    (h : Q (.bool (ys.any (· == kk))) s) : wpAny (model prog w) A (call (.ref x) [.str kk tk]) Q E s := by
  refine wpAny_call (codeAny_of_tree ?_)
  show wpAny _ A.in1 (callAny (.ref x) ⟨[.str kk tk], []⟩) _ _ s
  simp only [callAny]
  refine wpAny_bind (wpAny_load ho ?_)
  simp only [boundIn, show (Value.type "method-wrapper" == Value.type "method" || Value.type "method-wrapper" == Value.type "builtin_function_or_method" || Value.type "method-wrapper" == Value.type "method-wrapper") = true by decide, if_true]
  refine KFB.if_so (by decide) ?_
  refine wpAny_bind (wpAny_of_eq (a := ()) (check_lc _ _) ?_)
  refine wpAny_bind (wpAny_pure (wpAny_pure ?_))
  obtain ⟨⟨cls, dd, data, sl⟩, ho2, hc, n, hd⟩ := id hl
  simp only at hc hd
  subst hc hd
  exact ⟨quiet_lc, codeAny_builtin F.entry_list_contains (SeqInW.list_containsW l vs.toArray n dd sl _ (isStrOf kk) (fun y hy => eq_isStrOf kk tk hi y (by simpa using hy)) prog w _ _ _ ⟨ho2, by rw [← Array.any_toList, show vs.toArray.toList = vs from rfl, any_isStrOf kk hi]; exact h⟩)⟩
theorem getattr_containsN {s : Shared} {h₀ : Heap} {L sk : Addr} {m : Str → Option Value} {news : List (Addr × Obj)} {items : Array Value} {Q : Value → Shared → Prop} (F : Fr h₀ L s.heap m) (N : News h₀ L s.heap news) (hl : h₀.PlainList sk items)
    (h : ∀ x h', Fr h₀ L h' m → News h₀ L h' ((x, boundIn sk) :: news) → (∀ p ∈ news, p.1 < x) → Q (.ref x) { s with heap := h', toks := s.toks + 1 }) :
    wpAny (model prog w) A (getAttr (.ref sk) "__contains__" true) Q E s := by
  obtain ⟨n, e⟩ := hl
  obtain ⟨hp, g, d, t, os⟩ := s
  exact getattr_contains (F.keep _ _ e) (h _ _ (F.push _) (N.push F _) fun p hp => Heap.lt_size (N p hp).1)
end

def BAt (u l : Addr) (h : Heap) : Prop := h.get? u = some (boundIn l)
section
variable {prog : Program} {w : World} {M : Model} {A : Around} {E : Value → Shared → Prop} {s : Shared} {h₀ : Heap} {L : Addr} {m : Str → Option Value} {news : List (Addr × Obj)}
theorem bat_of {u l : Addr} {h : Heap} (N : News h₀ L h news) (hm : (u, boundIn l) ∈ news) : BAt u l h := N.get hm
theorem callWith_bm {pos : Pos} {u l : Addr} {first : List Value} {args : List (Bool × Sem Value)} {Q : Value → Shared → Prop} (hplain : args.any (·.1) = false)
    (h : wpAny M A (evalArgs (.ref u) true args []) (fun x s₁ => BAt u l s₁.heap ∧ wpAny M A (call (.ref u) (first ++ x.pos) x.kw) Q E s₁) E s) : wpAny M A (callWith pos (.ref u) first args []) Q E s := by
  unfold callWith
  refine wpAny_bind (wpAny_holding (wpAny_mono h (fun x s₁ h₁ => wpAny_bind (wpAny_standAt ?_)) fun _ _ x => x))
  obtain ⟨ho, hcall⟩ := h₁
  simp only [hplain, List.any_nil, Bool.or_false]
  refine wpAny_bind (m := keeperOf (.ref u)) ?_
  unfold keeperOf
  refine wpAny_bind (wpAny_load ho ?_)
  simp only [boundIn, show (Value.type "method-wrapper" != Value.type "method") = true by decide, show (Value.type "method-wrapper" == Value.type "builtin_function_or_method" || Value.type "method-wrapper" == Value.type "method-wrapper") = true by decide, if_true]
  refine wpAny_pure ?_
  exact wpAny_bind (wpAny_mono hcall (fun r s₂ hr => wpAny_bind (wpAny_holding (wpAny_point (wpAny_pure hr)))) fun _ _ x => x)
theorem callWith_bmN {pos : Pos} {u l : Addr} {first : List Value} {env : Env} {e : Expr} {rest : List Expr} {Q : Value → Shared → Prop} (_N : News h₀ L s.heap news) (_hm : (u, boundIn l) ∈ news)
    (h : wpAny M A (spliced (backTo pos (starEach (e :: rest) env))) (fun vs s₁ => BAt u l s₁.heap ∧ wpAny M A (call (.ref u) (first ++ vs)) Q E s₁) E s)
    (he : starEach (e :: rest) env = (false, eval e env) :: starEach rest env := by rfl) (hplain : (backTo pos (starEach rest env)).any (·.1) = false := by rfl) :
    wpAny M A (callWith pos (.ref u) first (backTo pos (starEach (e :: rest) env)) []) Q E s := by
  rw [he] at h ⊢
  refine callWith_bm (l := l) (by show (false || (backTo pos (starEach rest env)).any (·.1)) = false; rw [hplain]; rfl) ?_
  exact evalArgs_plain h
theorem call_containsN {x l : Addr} {vs : List Value} {ys : List Str} {kk : Str} {tk : Tok} {Q : Value → Shared → Prop} (N : News h₀ L s.heap news) (hm : (x, boundIn l) ∈ news) (hl : s.heap.IsList l vs.toArray) (hi : StrsAre vs ys)
    (h : Q (.bool (ys.any (· == kk))) s) : wpAny (model prog w) A (call (.ref x) [.str kk tk]) Q E s := call_contains (N.get hm) hl hi h
end
end Mine
end
section
open PySem PySem.W PyProof.Rows PySem.Calls
set_option maxRecDepth 100000
set_option maxHeartbeats 0
namespace Mine
/-- a list's iterator at a place; behind the end -/
def itObj (l : Addr) (i : Nat) : Obj := { cls := .type "list_iterator", data := .fields #[.ref l, .int i 0] }
def itEnd (i : Nat) : Obj := { cls := .type "list_iterator", data := .fields #[.none, .int i 0] }
section
variable {prog : Program} {w : World} {A : Around} {E : Value → Shared → Prop} {s : Shared} {h₀ : Heap} {L l it : Addr} {m : Str → Option Value} {news : List (Addr × Obj)} {items : Array Value} {g : Obj → List (Addr × Obj)} {x : Value} {i : Nat}
theorem iter_listN {Q : Value → Shared → Prop} (F : Fr h₀ L s.heap m) (N : News h₀ L s.heap news) (hl : s.heap.IsList l items)
    (h : ∀ I h', Fr h₀ L h' m → News h₀ L h' ((I, itObj l 0) :: news) → (∀ p ∈ news, p.1 < I) → Q (.ref I) { s with heap := h' }) :
    wpAny (model prog w) A (call (.builtin "iter") [.ref l]) Q E s := by
  refine call_function_entry (by decide +kernel) (by decide +kernel) kdk_entry_iter (kdk_args_iter _) ?_
  unfold Builtin.«iter»
  refine wpAny_bind (m := someArgs "iter" 1 2 _) (wpAny_of_eq (a := [Value.ref l]) (by first | rfl | kernel_rfl!) ?_)
  show wpAny _ _ (pyIter (.ref l) >>= _) _ _ _
  refine wpAny_bind (wpAny_pyIter_list hl ?_)
  exact wpAny_pure ⟨_, rfl, h _ _ (F.push _) (News.push F N _ rfl) (fun q hq => Heap.lt_size (N q hq).1)⟩

theorem isListIter_of {h : Heap} (e : h.get? it = some (itObj l i)) : h.IsListIter it l i := ⟨_, e, rfl, rfl⟩

theorem special_item {Q : Option Value → Shared → Prop} (ho : s.heap.get? it = some (itObj l i)) (hl : s.heap.IsList l items) (hx : items[i]? = some x)
    (hQ : Q (some x) { s with heap := s.heap.update it (Obj.mapFields (·.setIfInBounds 1 (rawInt ((i : Int) + 1)))) }) :
    wpAny (model prog w) A (callSpecial? (.ref it) (Str.ofString "__next__")) Q E s := by
  have hit := isListIter_of ho
  have hd : (itObj l i).data = .fields #[.ref l, .int i 0] := rfl
  obtain ⟨ol, hol, _, nl, hdl⟩ := hl
  refine wpAny_callSpecial?_slot (name := Str.ofString "__next__") hit.typeIs slot_listiter_next (wpAny_call_entry slot_listiter_next hit.typeIs entry_listiter_next ?_ (args_listiter_next _))
  show wpAny _ _ (field (.ref it) 0 >>= _) _ _ s
  refine wpAny_bind (wpAny_field ho hd (x := .ref l) rfl ?_)
  show wpAny _ _ (if (Value.ref l == Value.none) = true then _ else _) _ _ s
  rw [if_neg (show ¬ ((Value.ref l == Value.none) = true) from Bool.false_ne_true)]
  show wpAny _ _ (field (.ref it) 1 >>= _) _ _ s
  refine wpAny_bind (wpAny_field ho hd (x := .int i 0) rfl ?_)
  show wpAny _ _ (seqItems? (.ref l) >>= _) _ _ s
  refine wpAny_bind (wpAny_seqItems hol hdl ?_)
  simp only [Int.toNat_natCast, hx]
  refine wpAny_bind (wpAny_setField ho hd (by simp) ?_)
  exact wpAny_pure ⟨_, rfl, hQ⟩
theorem upd_it : Obj.mapFields (·.setIfInBounds 1 (rawInt ((i : Int) + 1))) (itObj l i) = itObj l (i + 1) := by
  unfold itObj Obj.mapFields rawInt
  simp
theorem upd_end : Obj.mapFields (·.setIfInBounds 0 Value.none) (itObj l i) = itEnd i := by
  unfold itObj itEnd Obj.mapFields
  simp

theorem next_itemN {Q : Value → Shared → Prop} (F : Fr h₀ L s.heap m) (N : News h₀ L s.heap news) (U : UpdF it (itObj l i) news g) (hl : s.heap.IsList l items) (hx : items[i]? = some x)
    (h : ∀ h', Fr h₀ L h' m → News h₀ L h' (g (itObj l (i + 1))) → Q x { s with heap := h' }) :
    wpAny (model prog w) A (call (.builtin "next") [.ref it]) Q E s := by
  obtain ⟨pre, post, hls, hg, a, b⟩ := U.split
  have hmem : (it, itObj l i) ∈ news := by rw [hls]; exact List.mem_append_right _ (.head _)
  have hm := N (it, itObj l i) hmem
  have hit := isListIter_of hm.1
  refine call_function_entry (by decide +kernel) (by decide +kernel) kdk_entry_next (kdk_args_next _) ?_
  unfold Builtin.«next»
  refine wpAny_bind (m := someArgs "next" 1 2 _) (wpAny_of_eq (a := [Value.ref it]) (by first | rfl | kernel_rfl!) ?_)
  dsimp only
  refine wpAny_bind (wpAny_specialOf (name := Str.ofString "__next__") hit.typeIs slot_listiter_next.lookup ?_)
  refine wpAny_ite_split (fun hab => absurd hab (by decide)) (fun _ => ?_)
  refine wpAny_bind (special_item hm.1 hl hx ?_)
  have ⟨U1, U2⟩ := news_upd (f := Obj.mapFields (·.setIfInBounds 1 (rawInt ((i : Int) + 1)))) F (hls ▸ N) a b upd_it rfl
  exact wpAny_pure ⟨_, rfl, h _ U1 (hg _ ▸ U2)⟩

theorem own_stop : ownMembersOf (.type "StopIteration") [] = #[] := by
  first | rfl | decide +kernel | (unfold ownMembersOf; split <;> first | rfl | (rename_i h; revert h; decide) | simp_all)
theorem special_end {Q : Option Value → Shared → Prop} (hh : A.handled = none) (ho : s.heap.get? it = some (itObj l i)) (hl : s.heap.IsList l items) (hx : items[i]? = none)
    (hE : ∀ h' e, Heap.NewExc (s.heap.update it (Obj.mapFields (·.setIfInBounds 0 Value.none))) h' e "StopIteration" → E (.ref e) { s with heap := h' }) :
    wpAny (model prog w) A (callSpecial? (.ref it) (Str.ofString "__next__")) Q E s := by
  have hit := isListIter_of ho
  have hd : (itObj l i).data = .fields #[.ref l, .int i 0] := rfl
  obtain ⟨ol, hol, _, nl, hdl⟩ := hl
  refine wpAny_callSpecial?_slot (name := Str.ofString "__next__") hit.typeIs slot_listiter_next (wpAny_call_entry slot_listiter_next hit.typeIs entry_listiter_next ?_ (args_listiter_next _))
  show wpAny _ _ (field (.ref it) 0 >>= _) _ _ s
  refine wpAny_bind (wpAny_field ho hd (x := .ref l) rfl ?_)
  show wpAny _ _ (if (Value.ref l == Value.none) = true then _ else _) _ _ s
  rw [if_neg (show ¬ ((Value.ref l == Value.none) = true) from Bool.false_ne_true)]
  show wpAny _ _ (field (.ref it) 1 >>= _) _ _ s
  refine wpAny_bind (wpAny_field ho hd (x := .int i 0) rfl ?_)
  show wpAny _ _ (seqItems? (.ref l) >>= _) _ _ s
  refine wpAny_bind (wpAny_seqItems hol hdl ?_)
  simp only [Int.toNat_natCast, hx]
  refine wpAny_bind (wpAny_rule (wpAny_bind (wpAny_setField ho hd (by simp) ?_)))
  show wpAny _ _ (newExc (.type "StopIteration") [] >>= _) _ _ _
  refine wpAny_bind ?_
  simp only [newExc, newTuple]
  refine wpAny_bind (wpAny_newObj_type ?_ (by size_fits))
  refine wpAny_bind (m := firstArgMember _ _) (wpAny_of_eq (a := Value.none) (by first | rfl | (simp only [firstArgMember]; rfl)) ?_)
  refine wpAny_newObj_type ?_ (by size_fits)
  simp only [raiseNew]
  refine wpAny_bind (wpAny_handled ?_)
  rw [show A.in1.handled = none from hh]
  refine wpAny_bind (wpAny_pure (wpAny_throw ?_))
  refine hE _ _ ⟨fun b o hb => Heap.get?_push_of_some _ (Heap.get?_push_of_some _ hb), ?_, ?_⟩
  · refine Heap.get?_none_of_le ?_
    rw [Heap.size_push]; exact Nat.le_succ _
  · exact ⟨_, .ref (s.heap.update it (Obj.mapFields (·.setIfInBounds 0 Value.none))).objs.size, Heap.get?_push_size _ rfl, rfl, by rw [own_stop]; rfl⟩
theorem next_endN {Q : Value → Shared → Prop} (hh : A.handled = none) (F : Fr h₀ L s.heap m) (N : News h₀ L s.heap news) (U : UpdF it (itObj l i) news g) (hl : s.heap.IsList l items) (hx : items[i]? = none)
    (h : ∀ h₁ h' e, Fr h₀ L h₁ m → News h₀ L h₁ (g (itEnd i)) → Heap.NewExc h₁ h' e "StopIteration" → E (.ref e) { s with heap := h' }) :
    wpAny (model prog w) A (call (.builtin "next") [.ref it]) Q E s := by
  obtain ⟨pre, post, hls, hg, a, b⟩ := U.split
  have hmem : (it, itObj l i) ∈ news := by rw [hls]; exact List.mem_append_right _ (.head _)
  have hm := N (it, itObj l i) hmem
  have hit := isListIter_of hm.1
  refine call_function_entry (by decide +kernel) (by decide +kernel) kdk_entry_next (kdk_args_next _) ?_
  unfold Builtin.«next»
  refine wpAny_bind (m := someArgs "next" 1 2 _) (wpAny_of_eq (a := [Value.ref it]) (by first | rfl | kernel_rfl!) ?_)
  dsimp only
  refine wpAny_bind (wpAny_specialOf (name := Str.ofString "__next__") hit.typeIs slot_listiter_next.lookup ?_)
  refine wpAny_ite_split (fun hab => absurd hab (by decide)) (fun _ => ?_)
  have ⟨U1, U2⟩ := news_upd (f := Obj.mapFields (·.setIfInBounds 0 Value.none)) F (hls ▸ N) a b upd_end rfl
  exact wpAny_bind (special_end hh hm.1 hl hx fun h' e hn => h _ h' e U1 (hg _ ▸ U2) hn)
end
end Mine
end
section
open PySem PySem.W PyProof.Rows
set_option maxRecDepth 100000
set_option maxHeartbeats 0
namespace Mine
local macro_rules | `(tactic| walk_at "getAttr ref") => `(tactic| (k_here; (with_reducible show wpAny _ _ (getAttr (Value.ref _) (PySem.Str.ofString "__contains__") _) _ _ _); refine' getattr_containsN ?k1 ?k2 ?k3 ?_; (case k1 => k_asm); (case k2 => k_asm); (case k3 => assumption); k_whole; intro x' h' F' N' l1; (try k_lt l1); (try k_sweep)))
local macro_rules | `(tactic| walk_at "call builtin:iter") => `(tactic| (k_here; (with_reducible show wpAny _ _ (call (Value.builtin "iter") [Value.ref _]) _ _ _); refine' iter_listN ?k1 ?k2 ?k3 ?_; (case k1 => k_asm); (case k2 => k_asm); (case k3 => is_list); k_whole; intro x' h' F' N' l1; (try k_lt l1); (try k_sweep)))
local macro_rules | `(tactic| is_list) => `(tactic| exact Fr.lst (by assumption) (Fr.lst (by assumption) (by assumption)))
local macro_rules | `(tactic| k_room) => `(tactic| ktr_room)
abbrev instFF (d bm it : Addr) : Obj := { cls := Value.ref 96, dict := some d, slots := #[some (Value.ref bm), some (Value.ref it)] }
local macro_rules | `(tactic| walk_at "call builtin:next") => `(tactic| (k_here; (with_reducible show wpAny _ _ (call (Value.builtin "next") [Value.ref _]) _ _ _); refine' next_itemN ?k1 ?k2 ?k3 ?k4 ?k5 ?_; (case k1 => k_asm); (case k2 => k_asm); (case k3 => k_updF); (case k4 => is_list); (case k5 => assumption); k_whole; intro h' F' N'; (try dsimp only at N'); (try k_sweep)))
local macro_rules | `(tactic| walk_at "call builtin:next") => `(tactic| (k_here; (with_reducible show wpAny _ _ (call (Value.builtin "next") [Value.ref _]) _ _ _); refine' next_endN ?k0 ?k1 ?k2 ?k3 ?k4 ?k5 ?_; (case k0 => exact rfl); (case k1 => k_asm); (case k2 => k_asm); (case k3 => k_updF); (case k4 => is_list); (case k5 => assumption); k_whole; intro h1' h' e' F' N' x'; (try dsimp only at N')))
local macro_rules | `(tactic| walk_at "callWith ref") => `(tactic| (k_here; (with_reducible show wpAny _ _ (callWith _ (Value.ref _) _ (backTo _ (starEach (_ :: _) _)) []) _ _ _); k_dflt (refine' callWith_bmN ?k1 ?k2 ?_; (case k1 => k_asm); (case k2 => k_mem); k_whole)))
local macro_rules | `(tactic| walk_at "And") => `(tactic| ((with_reducible show BAt _ _ _ ∧ _); k_dflt (refine ⟨bat_of (by k_asm) (by k_mem), ?_⟩); (try dsimp only [List.nil_append, List.cons_append])))
local macro_rules | `(tactic| walk_at "call ref") => `(tactic| (k_here; (with_reducible show wpAny _ _ (call (Value.ref _) [Value.str _ _]) _ _ _); k_dflt (refine' call_containsN ?k1 ?k2 ?k3 ?k4 ?_; (case k1 => k_asm); (case k2 => k_mem); (case k3 => is_list); (case k4 => assumption); k_whole)))
local macro_rules | `(tactic| walk_at "exec While") => `(tactic| refine hold_ ?_)
theorem ff_next {w : World} {loose : List Str} {mean : ExcName → Option Value} {mg mb : Str → Option Value}
  {dp un : Nat} {gd : Option (List Code)} {cn : Str} {cs : Scope} {a : Addr} {ccd : Value} {cl : List (Str × Addr)} {outer : List Env} {A₀ : Around} {base h₀ : Heap} {L : Addr} {m : Str → Option Value} {s : Shared} {Q E : Value → Shared → Prop}
  {S it x d bm fl sk : Addr} {oS : Obj} {i : Nat} {vs ws : List Value} {xs ys : List Str}
  (B : Below A₀ base outer h₀) (F : Fr h₀ L s.heap m) (X : (hd.heap_39 w.params).In h₀) (T : Top hd.view_39 loose mean mg mb h₀) (hk : cs.kind = .function) (hdp : dp + 2 < recursionLimit) (hun : un + 32 < cLine)
  (N : News h₀ L s.heap [(S, oS), (it, itObj fl i), (x, instFF d bm it), (d, dictOf [] 0), (bm, boundIn sk)])
  (l1 : @LT.lt Nat _ bm d) (l2 : @LT.lt Nat _ d x) (l3 : @LT.lt Nat _ x it) (l4 : @LT.lt Nat _ it S)
  (hl : h₀.IsList fl vs.toArray) (hs : Strs vs xs) (hl2 : h₀.IsList sk ws.toArray) (hs2 : Strs ws ys)
  (hret : ∀ j v h' tk', i ≤ j → vs[j]? = some v → (∃ y, xs[j]? = some y ∧ ys.any (· == y) = false) → (∀ k z, i ≤ k → k < j → xs[k]? = some z → ys.any (· == z) = true) → Fr h₀ L h' m → News h₀ L h' [(S, oS), (it, itObj fl (j + 1)), (x, instFF d bm it), (d, dictOf [] 0), (bm, boundIn sk)] → Q v { s with heap := h', toks := tk' })
  (hexc : (∀ k z, i ≤ k → xs[k]? = some z → ys.any (· == z) = true) → ∀ e h' tk' n, RaisedN base (envX cn cs L a ccd cl :: outer) e (.type "StopIteration") [(S, oS), (it, itEnd n), (x, instFF d bm it), (d, dictOf [] 0), (bm, boundIn sk)] h' → h₀.UpToSlots h' → E (.ref e) { s with heap := h', toks := tk' }) :
  wpAny (model Challenge.rw_ij0195_03.row.prog w) (ktrTop dp un gd cn cs L a ccd cl outer) (call (.ref 92) [.ref x]) Q E s := by
  w_strict (
    (revert X; k_fill; intro X)
    refine wpAny_call ?_
    cell_enter
    k_steps
    refine of_hold ?_
    refine' while_led (x := Str.ofString "item") (fun i => [(S, oS), (it, itObj fl i), (x, instFF d bm it), (d, dictOf [] 0), (bm, boundIn sk)]) (fun k => i ≤ k ∧ ∀ j z, i ≤ j → j < k → xs[j]? = some z → ys.any (· == z) = true) (max i xs.length) i ?h1 ?h2 ?h3 ?h4 ?h5
    (case h1 => k_asm)
    (case h2 => k_asm)
    (case h3 => exact ⟨Nat.le_refl _, fun j z a b => absurd (Nat.lt_of_le_of_lt a b) (Nat.lt_irrefl _)⟩)
    (case h4 => exact Nat.le_max_left _ _)
    (case h5 =>
      intro k u h2 tk2 hk2 hP F2 N2
      obtain ⟨hik, hP⟩ := hP
      (try dsimp only)
      (try k_fold)
      rcases hx : vs.toArray[k]? with _ | v
      · have hlen : xs.length ≤ k := by
          have := strs_length hs
          simp at hx
          omega
        k_steps
        refine hexc (fun j z hj hz => hP j z hj ?_ hz) _ _ _ k (by assumption) ((Heap.UpToSlots.of_keeps (Fr.keep (by assumption))).trans (by assumption))
        exact Nat.lt_of_lt_of_le (List.getElem?_eq_some_iff.mp hz).1 hlen
      · have hx' : vs[k]? = some v := by simpa using hx
        obtain ⟨y, t, hy, e⟩ := strs_get hs hx'
        subst e
        have hlt : k < xs.length := (List.getElem?_eq_some_iff.mp hy).1
        k_steps
        · refine ⟨_, _, fun _ => some (.str y t), Nat.lt_of_lt_of_le hlt (Nat.le_max_right _ _), ⟨Nat.le_succ_of_le hik, fun j z h1 h2 hz => ?_⟩, rfl, fr_over (by assumption), by assumption⟩
          rcases Nat.lt_succ_iff_lt_or_eq.mp h2 with h3 | h3
          · exact hP j z h1 h3 hz
          · subst h3
            rw [hy] at hz
            cases hz
            assumption
        · dsimp only
          k_steps
          dsimp only [TurnEnd]
          k_steps
          exact hret k (.str y t) _ _ hik hx' ⟨y, hy, by assumption⟩ hP (by assumption) (by assumption)))
end Mine
end
section
open PySem PySem.W PyProof.Rows PySem.Calls
set_option maxRecDepth 100000
set_option maxHeartbeats 0
namespace Mine
def lstObj (acc : Array Value) (c : Nat) : Obj := { cls := .type "list", dict := none, data := .seq acc c, slots := #[] }
def keepP (ys : List Str) : Value → Bool
  | .str y _ => !(ys.any (· == y))
  | _ => true
theorem keep_next {ys : List Str} : ∀ {n i j : Nat} {vs : List Value} {xs : List Str} {v : Value}, j - i = n → i ≤ j → Strs vs xs → vs[j]? = some v → (∃ y, xs[j]? = some y ∧ ys.any (· == y) = false) → (∀ k z, i ≤ k → k < j → xs[k]? = some z → ys.any (· == z) = true) →
    (vs.drop i).filter (keepP ys) = v :: (vs.drop (j + 1)).filter (keepP ys) := by
  intro n
  induction n with
  | zero =>
    intro i j vs xs v hn hij hs hv hy hk
    have e : i = j := by omega
    subst e
    obtain ⟨y, hxy, hin⟩ := hy
    obtain ⟨y', t, hxy', rfl⟩ := strs_get hs hv
    rw [hxy] at hxy'; cases hxy'
    have hlt := (List.getElem?_eq_some_iff.mp hv).1
    rw [List.drop_eq_getElem_cons hlt]
    have hvv : vs[i] = .str y t := (List.getElem?_eq_some_iff.mp hv).2
    rw [hvv, List.filter_cons_of_pos (by simp only [keepP]; rw [hin]; rfl)]
  | succ n ih =>
    intro i j vs xs v hn hij hs hv hy hk
    have hlt' := (List.getElem?_eq_some_iff.mp hv).1
    have hlt : i < vs.length := by omega
    rw [List.drop_eq_getElem_cons hlt]
    obtain ⟨z, t, hz, e⟩ := strs_get hs (List.getElem?_eq_getElem hlt)
    have hin := hk i z (Nat.le_refl _) (by omega) hz
    rw [e, List.filter_cons_of_neg (by simp only [keepP]; rw [hin]; decide)]
    exact ih (by omega) (by omega) hs hv hy fun k z h1 h2 h3 => hk k z (by omega) h2 h3
theorem keep_end {ys : List Str} {vs : List Value} {xs : List Str} (hs : Strs vs xs) : ∀ {n i : Nat}, vs.length - i = n → (∀ k z, i ≤ k → xs[k]? = some z → ys.any (· == z) = true) → (vs.drop i).filter (keepP ys) = [] := by
  intro n
  induction n with
  | zero => intro i hn _; rw [List.drop_eq_nil_of_le (by omega)]; rfl
  | succ n ih =>
    intro i hn hk
    have hlt : i < vs.length := by omega
    rw [List.drop_eq_getElem_cons hlt]
    obtain ⟨z, t, hz, e⟩ := strs_get hs (List.getElem?_eq_getElem hlt)
    rw [e, List.filter_cons_of_neg (by simp only [keepP]; rw [hk i z (Nat.le_refl _) hz]; decide)]
    exact ih (by omega) fun k z h1 h2 => hk k z (by omega) h2

abbrev ledFF (S it x d bm sk : Addr) (oS oI : Obj) : List (Addr × Obj) := [(S, oS), (it, oI), (x, instFF d bm it), (d, dictOf [] 0), (bm, boundIn sk)]
section
variable {w : World} {loose : List Str} {mean : ExcName → Option Value} {mg mb : Str → Option Value}
  {dp un : Nat} {gd : Option (List Code)} {cn : Str} {cs : Scope} {a : Addr} {ccd : Value} {cl : List (Str × Addr)} {outer : List Env} {A₀ : Around} {base h₀ : Heap} {L : Addr} {m : Str → Option Value}
  {S it x d bm fl sk : Addr} {vs ws : List Value} {xs ys : List Str}

theorem ff_pyNext {s : Shared} {Q : Option Value → Shared → Prop} {E : Value → Shared → Prop} {oS : Obj} {i : Nat}
  (B : Below A₀ base outer h₀) (F : Fr h₀ L s.heap m) (X : (hd.heap_39 w.params).In h₀) (T : Top hd.view_39 loose mean mg mb h₀) (hk : cs.kind = .function) (hdp : dp + 2 < recursionLimit) (hun : un + 32 < cLine)
  (N : News h₀ L s.heap (ledFF S it x d bm sk oS (itObj fl i)))
  (l1 : @LT.lt Nat _ bm d) (l2 : @LT.lt Nat _ d x) (l3 : @LT.lt Nat _ x it) (l4 : @LT.lt Nat _ it S)
  (hl : h₀.IsList fl vs.toArray) (hs : Strs vs xs) (hl2 : h₀.IsList sk ws.toArray) (hs2 : Strs ws ys)
  (hret : ∀ j v h' tk', i ≤ j → vs[j]? = some v → (∃ y, xs[j]? = some y ∧ ys.any (· == y) = false) → (∀ k z, i ≤ k → k < j → xs[k]? = some z → ys.any (· == z) = true) → Fr h₀ L h' m → News h₀ L h' (ledFF S it x d bm sk oS (itObj fl (j + 1))) → Q (some v) { s with heap := h', toks := tk' })
  (hexc : (∀ k z, i ≤ k → xs[k]? = some z → ys.any (· == z) = true) → ∀ e h' tk' n, RaisedN base (envX cn cs L a ccd cl :: outer) e (.type "StopIteration") (ledFF S it x d bm sk oS (itEnd n)) h' → h₀.UpToSlots h' → Q none { s with heap := h', toks := tk' }) :
  wpAny (model Challenge.rw_ij0195_03.row.prog w) (ktrTop dp un gd cn cs L a ccd cl outer) (pyNext (.ref x)) Q E s := by
  w_strict (
    (revert X; k_fill; intro X)
    (have I : InstAt s.heap x (instFF d bm it) 96 (some (dictOf [] 0)) := InstAt.of_news N (.tail _ (.tail _ (.head _))) (.tail _ (.tail _ (.tail _ (.head _)))))
    refine owit_next (K := hd.heap_39 w.params) (C := 96) (f := 92) F X I ?hs ?hf ?_
    (case hs => k_is)
    (case hf => k_is)
    skip)
  refine ff_next B F X T hk hdp hun N l1 l2 l3 l4 hl hs hl2 hs2 (fun j v h' tk' => hret j v h' tk') fun hall e h' tk' n R U => ?_
  obtain ⟨Bh, a0, hB, hlN, hfl⟩ := id R
  obtain ⟨ob, hob, hobc⟩ := hfl.there
  have hT : ({ s with heap := h', toks := tk' } : Shared).TypeIs (.ref e) "StopIteration" := (show ∃ o, h'.get? e = some o ∧ o.cls = .type "StopIteration" from ⟨ob, hob, hobc⟩)
  unfold OwitStop
  refine wpAny_isInstance hT (b := true) isSubtype_stop ?_
  rw [if_pos rfl]
  exact hexc hall e h' tk' n R U

theorem ff_extend {R : Result → Shared → Prop}
  (B : Below A₀ base outer h₀) (X : (hd.heap_39 w.params).In h₀) (T : Top hd.view_39 loose mean mg mb h₀) (hk : cs.kind = .function) (hdp : dp + 2 < recursionLimit) (hun : un + 33 < cLine)
  (l1 : @LT.lt Nat _ bm d) (l2 : @LT.lt Nat _ d x) (l3 : @LT.lt Nat _ x it) (l4 : @LT.lt Nat _ it S)
  (hl : h₀.IsList fl vs.toArray) (hs : Strs vs xs) (hl2 : h₀.IsList sk ws.toArray) (hs2 : Strs ws ys) (hsz : vs.length ≤ 100000) :
  ∀ (n i : Nat) (s : Shared) (acc : Array Value) (c : Nat), vs.length - i ≤ n → acc.size ≤ i → Fr h₀ L s.heap m → News h₀ L s.heap (ledFF S it x d bm sk (lstObj acc c) (itObj fl i)) →
  (∀ c' e h' tk' k, RaisedN base (envX cn cs L a ccd cl :: outer) e (.type "StopIteration") (ledFF S it x d bm sk (lstObj (acc ++ ((vs.drop i).filter (keepP ys)).toArray) c') (itEnd k)) h' → h₀.UpToSlots h' → R (.ok (.ret .none)) { s with heap := h', toks := tk' }) →
  codeAny (model Challenge.rw_ij0195_03.row.prog w) (ktrTop dp un gd cn cs L a ccd cl outer) (.builtin "list.extend.loop" ⟨[.ref S, .ref x, .none], []⟩) R s := by
  intro n
  induction n with
  | zero =>
    intro i s acc c hn hacc F N hR
    refine codeAny_builtin PySem.F.entry_extend_loop ?_
    rw [Around.under_plainId PySem.F.plain_extend_loop _]
    show wpAny _ (ktrTop dp (un + 1) gd cn cs L a ccd cl outer) (pyNext (.ref x) >>= _) _ _ s
    refine wpAny_bind (ff_pyNext B F X T hk hdp (by omega) N l1 l2 l3 l4 hl hs hl2 hs2 (fun j v h' tk' h1 h2 h3 h4 F' N' => ?_) fun hall e h' tk' k RN U => ?_)
    · have := (List.getElem?_eq_some_iff.mp h2).1
      omega
    · refine wpAny_pure ?_
      refine hR c e h' tk' k ?_ U
      rw [keep_end hs rfl hall]
      simpa using RN
  | succ n ih =>
    intro i s acc c hn hacc F N hR
    refine codeAny_builtin PySem.F.entry_extend_loop ?_
    rw [Around.under_plainId PySem.F.plain_extend_loop _]
    show wpAny _ (ktrTop dp (un + 1) gd cn cs L a ccd cl outer) (pyNext (.ref x) >>= _) _ _ s
    refine wpAny_bind (ff_pyNext B F X T hk hdp (by omega) N l1 l2 l3 l4 hl hs hl2 hs2 (fun j v h' tk' h1 h2 h3 h4 F' N' => ?_) fun hall e h' tk' k RN U => ?_)
    · have hj := (List.getElem?_eq_some_iff.mp h2).1
      have e1 := keep_next rfl h1 hs h2 h3 h4
      have hS := (N' (S, lstObj acc c) (.head _)).1
      show wpAny _ _ (Builtin.List.listUpdate (.ref S) (·.push v) >>= _) _ _ _
      refine wpAny_bind ?_
      show wpAny _ _ (updateSeq S (·.push v)) _ _ _
      refine wpAny_updateSeq (hz := by rw [sizeLine_eq]; omega) (_hz' := by rw [sizeLine_eq, Array.size_push]; omega) hS rfl ?_
      have ⟨U1, U2⟩ := news_upd (pre := []) (f := Obj.mapSeq (·.push v)) (o' := lstObj (acc.push v) (c + 1)) F' N' (fun _ h => nomatch h) (fun p hp => by
        rcases List.mem_cons.mp hp with rfl | hp
        · exact Nat.ne_of_lt l4
        · rcases List.mem_cons.mp hp with rfl | hp
          · exact Nat.ne_of_lt (Nat.lt_trans l3 l4)
          · rcases List.mem_cons.mp hp with rfl | hp
            · exact Nat.ne_of_lt (Nat.lt_trans l2 (Nat.lt_trans l3 l4))
            · have := List.mem_singleton.mp hp; subst this
              exact Nat.ne_of_lt (Nat.lt_trans l1 (Nat.lt_trans l2 (Nat.lt_trans l3 l4)))) (by simp [lstObj, Obj.mapSeq]) rfl
      refine wpAny_pure ⟨plainId_quiet PySem.F.plain_extend_loop _, ?_⟩
      refine ih (j + 1) _ (acc.push v) (c + 1) (by omega) (by rw [Array.size_push]; omega) U1 U2 fun c' e h'' tk'' k RN U => ?_
      refine hR c' e h'' tk'' k ?_ U
      rw [e1]
      simpa using RN
    · refine wpAny_pure ?_
      refine hR c e h' tk' k ?_ U
      rw [keep_end hs rfl hall]
      simpa using RN
end
end Mine
end
section
open PySem PySem.W PyProof.Rows PySem.Calls
set_option maxRecDepth 100000
set_option maxHeartbeats 0
namespace Mine
section
variable {w : World} {loose : List Str} {mean : ExcName → Option Value} {mg mb : Str → Option Value}
  {dp un : Nat} {gd : Option (List Code)} {cn : Str} {cs : Scope} {a : Addr} {ccd : Value} {cl : List (Str × Addr)} {outer : List Env} {A₀ : Around} {base h₀ : Heap} {L : Addr} {m : Str → Option Value}
  {S it x d bm fl sk : Addr} {vs ws : List Value} {xs ys : List Str}
local macro_rules | `(tactic| k_room) => `(tactic| ktr_room)
theorem ff_iter {s : Shared} {Q E : Value → Shared → Prop} {news : List (Addr × Obj)}
  (B : Below A₀ base outer h₀) (F : Fr h₀ L s.heap m) (X : (hd.heap_39 w.params).In h₀) (T : Top hd.view_39 loose mean mg mb h₀) (hk : cs.kind = .function) (hdp : dp + 2 < recursionLimit) (hun : un + 32 < cLine)
  (N : News h₀ L s.heap news)
  (hret : ∀ h' tk', Fr h₀ L h' m → News h₀ L h' news → Q (.ref x) { s with heap := h', toks := tk' }) :
  wpAny (model Challenge.rw_ij0195_03.row.prog w) (ktrTop dp un gd cn cs L a ccd cl outer) (call (.ref 85) [.ref x]) Q E s := by
  w_strict (
    (revert X; k_fill; intro X)
    refine wpAny_call ?_
    cell_enter
    k_steps
    exact hret _ _ (by assumption) (by assumption))

theorem ledS_upd {h : Heap} {acc acc' : Array Value} {c c' : Nat} {oI : Obj} {f : Array Value → Array Value} (F : Fr h₀ L h m) (N : News h₀ L h (ledFF S it x d bm sk (lstObj acc c) oI))
  (l1 : @LT.lt Nat _ bm d) (l2 : @LT.lt Nat _ d x) (l3 : @LT.lt Nat _ x it) (l4 : @LT.lt Nat _ it S) (e : Obj.mapSeq f (lstObj acc c) = lstObj acc' c') :
  Fr h₀ L (h.update S (Obj.mapSeq f)) m ∧ News h₀ L (h.update S (Obj.mapSeq f)) (ledFF S it x d bm sk (lstObj acc' c') oI) :=
  news_upd (pre := []) (f := Obj.mapSeq f) (o' := lstObj acc' c') F N (fun _ h => nomatch h) (fun p hp => by
    rcases List.mem_cons.mp hp with rfl | hp
    · exact Nat.ne_of_lt l4
    · rcases List.mem_cons.mp hp with rfl | hp
      · exact Nat.ne_of_lt (Nat.lt_trans l3 l4)
      · rcases List.mem_cons.mp hp with rfl | hp
        · exact Nat.ne_of_lt (Nat.lt_trans l2 (Nat.lt_trans l3 l4))
        · have := List.mem_singleton.mp hp; subst this
          exact Nat.ne_of_lt (Nat.lt_trans l1 (Nat.lt_trans l2 (Nat.lt_trans l3 l4)))) e rfl

theorem ff_list {s : Shared} {Q E : Value → Shared → Prop}
  (B : Below A₀ base outer h₀) (F : Fr h₀ L s.heap m) (X : (hd.heap_39 w.params).In h₀) (T : Top hd.view_39 loose mean mg mb h₀) (hk : cs.kind = .function) (hdp : dp + 2 < recursionLimit) (hun : un + 40 < cLine)
  (N : News h₀ L s.heap [(it, itObj fl 0), (x, instFF d bm it), (d, dictOf [] 0), (bm, boundIn sk)])
  (l1 : @LT.lt Nat _ bm d) (l2 : @LT.lt Nat _ d x) (l3 : @LT.lt Nat _ x it)
  (hl : h₀.IsList fl vs.toArray) (hs : Strs vs xs) (hl2 : h₀.IsList sk ws.toArray) (hs2 : Strs ws ys) (hsz : vs.length ≤ 100000)
  (hQ : ∀ S c e h' tk' k, RaisedN base (envX cn cs L a ccd cl :: outer) e (.type "StopIteration") (ledFF S it x d bm sk (lstObj (vs.filter (keepP ys)).toArray c) (itEnd k)) h' → h₀.UpToSlots h' → h₀.get? S = none → Q (.ref S) { s with heap := h', toks := tk' }) :
  wpAny (model Challenge.rw_ij0195_03.row.prog w) (ktrTop dp un gd cn cs L a ccd cl outer) (call (.type "list") [.ref x]) Q E s := by
  have hf : ∃ K, K = hd.heap_39 w.params ∧ findIn K (.ref 96) "__iter__" = some (some (.ref 85)) ∧ isFn K (.ref 85) = true ∧ findIn K (.ref 96) "__next__" = some (some (.ref 92)) ∧ findIn K (.ref 96) "__len__" = some none ∧ findIn K (.ref 96) "__length_hint__" = some none := by
    w_strict (
      (revert X; k_fill; intro X)
      refine ⟨hd.heap_39 w.params, rfl, ?_, ?_, ?_, ?_, ?_⟩
      (all_goals k_is))
  obtain ⟨K, rfl, f1, f2, f3, f4, f5⟩ := hf
  refine callType_codes (Q₁ := fun obj s₁ => obj = .ref s.heap.objs.size ∧ s₁ = { s with heap := s.heap.push { cls := .type "list", data := .seq #[] } }) PySem.F.called_list (PySem.F.typeCall_list_1 _) PySem.F.entry_list_init (code_list_new _ ⟨rfl, rfl⟩) fun obj s₁ h₁ => ?_
  obtain ⟨rfl, rfl⟩ := h₁
  have hS : (s.heap.push { cls := .type "list", data := .seq #[] }).get? s.heap.objs.size = some (lstObj #[] 0) := Heap.get?_push_size _ rfl
  have l4 : @LT.lt Nat _ it s.heap.objs.size := Heap.lt_size (N _ (.head _)).1
  have F1 : Fr h₀ L (s.heap.push { cls := .type "list", data := .seq #[] }) m := F.push _
  have N1 : News h₀ L (s.heap.push { cls := .type "list", data := .seq #[] }) (ledFF s.heap.objs.size it x d bm sk (lstObj #[] 0) (itObj fl 0)) := News.push F N _ rfl
  refine ⟨⟨_, hS, rfl⟩, PySem.F.args_list_init_2 _ _, ?_⟩
  generalize s.heap.objs.size = S at *
  show wpAny _ (ktrTop dp (un + 2) gd cn cs L a ccd cl outer) (do let old ← Builtin.List.listItems (.ref S); Builtin.List.listUpdate (.ref S) (fun _ => #[]); letGo old.toList.reverse; Builtin.List.listExtendWith (.ref S) (.ref x) .none) _ _ _
  refine wpAny_bind ?_
  unfold Builtin.List.listItems
  refine wpAny_bind (wpAny_seqItems hS rfl (wpAny_pure ?_))
  show wpAny _ _ (updateSeq S (fun _ => #[]) >>= fun _ => letGo (#[] : Array Value).toList.reverse >>= fun _ => Builtin.List.listExtendWith (.ref S) (.ref x) .none) _ _ _
  refine wpAny_bind (wpAny_updateSeq hS rfl ?_)
  have ⟨F2, N2⟩ := ledS_upd (f := fun _ => #[]) (acc' := #[]) (c' := 0) F1 N1 l1 l2 l3 l4 (by simp [lstObj, Obj.mapSeq])
  refine wpAny_bind (wpAny_letGo ?_)
  have I2 : InstAt _ x (instFF d bm it) 96 (some (dictOf [] 0)) := InstAt.of_news N2 (.tail _ (.tail _ (.head _))) (.tail _ (.tail _ (.tail _ (.head _))))
  unfold Builtin.List.listExtendWith
  refine wpAny_bind (I2.type.here ?_)
  have hSx : S ≠ x := Nat.ne_of_gt (Nat.lt_trans l3 l4)
  have h1 : Builtin.List.listSameRef (.ref S) (.ref x) = false := by simp [Builtin.List.listSameRef, hSx]
  have h2 : (Value.ref 96 == Value.type "list") = false := by rfl
  have h3 : (Value.ref 96 == Value.type "tuple") = false := by rfl
  simp only [h1, h2, h3, Bool.or_false, Bool.false_eq_true, if_false]
  refine wpAny_bind (owit_iter F2 X I2 f1 f2 (ff_iter B F2 X T hk hdp (by omega) N2 fun h3 tk3 F3 N3 => ?_))
  have I3 : InstAt h3 x (instFF d bm it) 96 (some (dictOf [] 0)) := InstAt.of_news N3 (.tail _ (.tail _ (.head _))) (.tail _ (.tail _ (.tail _ (.head _))))
  refine owit_it F3 X I3 f3 ?_
  refine wpAny_bind (wpAny_holding ?_)
  unfold Builtin.List.listLengthHint
  refine wpAny_bind (wpAny_bind (I3.type.here ((looks_findIn (X.keeps F3.keep) f4).here ?_)))
  show wpAny _ _ (specialOf (Value.ref x) (Str.ofString "__length_hint__") >>= _) _ _ _
  refine wpAny_bind (wpAny_bind (I3.type.here ((looks_findIn (X.keeps F3.keep) f5).here ?_)))
  refine wpAny_pure ?_
  show wpAny _ _ (rule "list.extend.makes-room" >>= fun _ => Builtin.List.listTouch (.ref S) >>= fun _ => again (.builtin "list.extend.loop" ⟨[.ref S, .ref x, .none], []⟩)) _ _ _
  refine wpAny_bind (wpAny_rule ?_)
  refine wpAny_bind ?_
  show wpAny _ _ (updateSeq S (·.push .none) >>= fun _ => updateSeq S (·.pop)) _ _ _
  refine wpAny_bind (wpAny_updateSeq (N3 _ (.head _)).1 rfl ?_)
  have ⟨F4, N4⟩ := ledS_upd (f := (·.push Value.none)) (acc' := #[Value.none]) (c' := 1) F3 N3 l1 l2 l3 l4 (by simp [lstObj, Obj.mapSeq])
  refine wpAny_updateSeq (N4 _ (.head _)).1 rfl ?_
  have ⟨F5, N5⟩ := ledS_upd (f := (·.pop)) (acc' := #[]) (c' := 2) F4 N4 l1 l2 l3 l4 (by simp [lstObj, Obj.mapSeq])
  refine wpAny_pure ⟨plainId_quiet PySem.F.plain_extend_loop _, ?_⟩
  refine ff_extend (un := un + 1) B X T hk hdp (by omega) l1 l2 l3 l4 hl hs hl2 hs2 hsz vs.length 0 _ #[] 2 (by omega) (Nat.le_refl _) F5 N5 fun c' e h' tk' k RN U => ?_
  refine ⟨rfl, hQ S c' e h' tk' k ?_ U (N1 _ (.head _)).2.2⟩
  simpa using RN
end
end Mine
end
section
open PySem PySem.W PyProof.Rows
set_option maxRecDepth 100000
set_option maxHeartbeats 0
namespace Mine
/-- everything stands as it stood, but the frames' own objects up to their slots -/
def Up (fr : List Addr) (h h' : Heap) : Prop := ∀ b o, h.get? b = some o → (b ∉ fr → h'.get? b = some o) ∧ (b ∈ fr → ∃ sl, h'.get? b = some { o with slots := sl })
theorem up_of {A : Around} {base h h' : Heap} {env : Env} {outer l : List Env} {e : Addr} {cls : Value} {news : List (Addr × Obj)} (B : Below A base (env :: outer) h)
    (R : RaisedN (hideAll h ((env :: outer).filterMap (·.frame))) l e cls news h') (U : h.UpToSlots h') : Up ((env :: outer).filterMap (·.frame)) h h' := by
  obtain ⟨Bh, a0, hB, hlN, hfl⟩ := R
  intro b o ho
  refine ⟨fun hn => hfl.1 _ _ (hB _ _ (hideAll_get _ ho hn)), fun hm => ?_⟩
  obtain ⟨o', ho', hd⟩ := (B.frames.mem hm).2
  rw [ho] at ho'; cases ho'
  exact U b o ho hd
theorem raisedN_get {base h' : Heap} {l : List Env} {e : Addr} {cls : Value} {news : List (Addr × Obj)} (R : RaisedN base l e cls news h') {p : Addr × Obj} (hp : p ∈ news) : h'.get? p.1 = some p.2 := by
  obtain ⟨Bh, a0, hB, hlN, hfl⟩ := R
  exact hfl.1 _ _ (hlN p hp).1
local macro_rules | `(tactic| walk_at "getAttr ref") => `(tactic| (k_here; (with_reducible show wpAny _ _ (getAttr (Value.ref _) (PySem.Str.ofString "__contains__") _) _ _ _); refine' getattr_containsN ?k1 ?k2 ?k3 ?_; (case k1 => k_asm); (case k2 => k_asm); (case k3 => assumption); k_whole; intro x' h' F' N' l1; (try k_lt l1); (try k_sweep)))
local macro_rules | `(tactic| walk_at "call builtin:iter") => `(tactic| (k_here; (with_reducible show wpAny _ _ (call (Value.builtin "iter") [Value.ref _]) _ _ _); refine' iter_listN ?k1 ?k2 ?k3 ?_; (case k1 => k_asm); (case k2 => k_asm); (case k3 => is_list); k_whole; intro x' h' F' N' l1; (try k_lt l1); (try k_sweep)))
local macro_rules | `(tactic| is_list) => `(tactic| exact Fr.lst (by assumption) (Fr.lst (by assumption) (by assumption)))
local macro_rules | `(tactic| k_room) => `(tactic| ktr_room)
theorem filter_c {w : World} {loose : List Str} {mean : ExcName → Option Value} {mg mb : Str → Option Value}
  {dp un : Nat} {gd : Option (List Code)} {cn : Str} {cs : Scope} {a : Addr} {ccd : Value} {cl : List (Str × Addr)} {outer : List Env} {A₀ : Around} {base h₀ : Heap} {L : Addr} {m : Str → Option Value} {s : Shared} {Q E : Value → Shared → Prop}
  {fl sk : Addr} {vs ws : List Value} {xs ys : List Str}
  (B : Below A₀ base outer h₀) (F : Fr h₀ L s.heap m) (X : (hd.heap_39 w.params).In h₀) (T : Top hd.view_39 loose mean mg mb h₀) (hk : cs.kind = .function) (hdp : dp + 8 < recursionLimit) (hun : un + 64 < cLine)
  (hl : s.heap.IsList fl vs.toArray) (hs : Strs vs xs) (hl2 : s.heap.PlainList sk ws.toArray) (hs2 : Strs ws ys) (hsz : vs.length ≤ 100000)
  (hret : ∀ (D : Addr) (c : Nat) (h' : Heap) (tk' : Nat), Up (L :: outer.filterMap (·.frame)) s.heap h' → h'.get? D = some (lstObj (vs.filter (keepP ys)).toArray c) → s.heap.get? D = none → Q (.ref D) { s with heap := h', toks := tk' }) :
  wpAny (model Challenge.rw_ij0195_03.row.prog w) (ktrTop dp un gd cn cs L a ccd cl outer) (call (.ref 107) [.ref fl, .ref sk]) Q E s := by
  w_strict (
    (revert X; k_fill; intro X)
    refine wpAny_call ?_
    refine' callP ?k1 ?k2 ?k3 ?k5 ?kA ?kF ?kK ?k6 ?k7 ?k8 ?k9 ?kB ?_ ?c2 ?c3 ?c4 ?c5
    (case kA => exact rfl); (case kF => exact rfl); (case kK => assumption); (case k1 => k_asm); (case k2 => k_asm); (case k3 => k_asm); (case k5 => k_asm); (case k6 => k_is); (case k7 => k_is); (case k8 => ktr_room); (case k9 => exact BindsTo.of_eq rfl); (case c5 => decide); (case kB => exact locs rfl); (case c2 => exact rfl); (case c3 => exact rfl); (case c4 => exact rfl)
    k_whole
    intro L' h' F' N' B'' X' T'
    have hl2' := hl2.isList
    have B' := below_max B''
    have Up' := fun (l : List Env) (e : Addr) (cls : Value) (news : List (Addr × Obj)) (h2 : Heap) (R : RaisedN _ l e cls news h2) (U : s.heap.UpToSlots h2) => up_of B'' R U
    clear B''
    (try dsimp only)
    (try k_lift B')
    (try k_fold)
    k_steps
    with_unfolding_all refine' ff_list ?j1 ?j2 ?j3 ?j4 ?j5 ?j6 ?j7 ?j8 ?l1 ?l2 ?l3 ?j9 ?j10 ?j11 ?j12 ?j13 ?_
    (case j1 => exact B')
    (case j2 => k_asm)
    (case j3 => k_asm)
    (case j4 => k_asm)
    (case j5 => exact rfl)
    (case j6 => ktr_room)
    (case j7 => ktr_units)
    (case j8 => k_asm)
    (case l1 => omega)
    (case l2 => omega)
    (case l3 => omega)
    (case j9 => exact hl)
    (case j10 => exact hs)
    (case j11 => exact hl2')
    (case j12 => exact hs2)
    (case j13 => exact hsz)
    intro S c e h3 tk3 k RN U hf
    have hS := raisedN_get RN (.head _)
    have hU := Up' _ _ _ _ _ RN U
    k_steps
    exact hret S c h3 tk3 hU hS hf)
end Mine
end
section
open PySem PySem.W PyProof.Rows PySem.Calls
set_option maxRecDepth 100000
set_option maxHeartbeats 0
namespace Mine
/-- where a comprehension takes its items from -/
def Src (prog : Program) (w : World) (A : Around) (xv : Value) (s₁ : Shared) (n : Nat) (P : Nat → Value → Prop) : Prop :=
  ∃ (fp : List Addr) (St : Nat → Heap → Prop) (o : Obj), (∀ (Q : Value → Shared → Prop) (E : Value → Shared → Prop), Q (.ref s₁.heap.objs.size) { s₁ with heap := s₁.heap.push o } → wpAny (model prog w) A (pyIter xv) Q E s₁) ∧
    Walks prog w A s₁.heap.objs.size fp [s₁.heap.objs.size] n P St ∧ St 0 (s₁.heap.push o) ∧ ∀ b ∈ fp, b < s₁.heap.objs.size + 1
/-- what is to be shown where a comprehension's source is at hand: the test and the element, each turn; what stands behind it -/
def CompAt (prog : Program) (w : World) (A : Around) (env : Env) (scope : Scope) (cl : List (Str × Addr)) (x : Str) (ifs : List Expr) (elt : Expr) (Q : Value → Shared → Prop) (xv : Value) (s₁ : Shared) : Prop :=
  ∃ (n : Nat) (P : Nat → Value → Prop) (h₀ : Heap) (L : Addr) (m : Str → Option Value) (news : List (Addr × Obj)) (p : Value → Bool) (FF : Value → Value → Prop),
    Src prog w A xv s₁ n P ∧ n ≤ sizeLine ∧ Fr h₀ L s₁.heap m ∧ News h₀ L s₁.heap news ∧
    (∀ (i : Nat) (v : Value) (C : Addr) (oC : Obj) (m₂ : Str → Option Value) (s₃ : Shared) (E' : Value → Shared → Prop), P i v → LCg.NsObj oC m₂ → m₂ x = some v → Fr h₀ L s₃.heap m → News h₀ L s₃.heap ((C, oC) :: news) → (∀ q ∈ news, q.1 < C) →
      wpAny (model prog w) A (forIn ifs true fun c r => if r = true then do let ok ← isTrue c (compEnvC scope cl C env) (eval c (compEnvC scope cl C env)); pure (ForInStep.yield ok) else pure (ForInStep.yield r)) (fun ok s₄ => ok = p v ∧ Keeps s₃ s₄) E' s₃) ∧
    (∀ (i : Nat) (v : Value) (C : Addr) (oC : Obj) (m₂ : Str → Option Value) (s₃ : Shared) (E' : Value → Shared → Prop), P i v → p v = true → LCg.NsObj oC m₂ → m₂ x = some v → Fr h₀ L s₃.heap m → News h₀ L s₃.heap ((C, oC) :: news) → (∀ q ∈ news, q.1 < C) →
      wpAny (model prog w) A (eval elt (compEnvC scope cl C env)) (fun y s₄ => FF v y ∧ Keeps s₃ s₄) E' s₃) ∧
    (∀ (D : Addr) (h' : Heap) (tk : Nat) (vs ys : List Value), vs.length = n → (∀ (j : Nat) (v : Value), vs[j]? = some v → P j v) → Fr h₀ L h' m → News h₀ L h' news → h'.PlainList D (List.toArray ys) → s₁.heap.get? D = none → s₁.heap.StaysIn h' → Paired FF (vs.filter p) ys → Q (.ref D) { s₁ with heap := h', toks := tk })
theorem items_eq {vs vs' : List Value} (hlen : vs'.length = vs.length) (hP : ∀ (j : Nat) (v : Value), vs'[j]? = some v → vs[j]? = some v) : vs' = vs := by
  refine List.ext_getElem? fun j => ?_
  rcases hj : vs'[j]? with _ | v
  · have hle := List.getElem?_eq_none_iff.mp hj
    rw [List.getElem?_eq_none (by omega)]
  · rw [hP j v hj]
section
variable {prog : Program} {w : World} {A : Around} {E : Value → Shared → Prop} {env : Env} {s : Shared}
theorem src_list {l : Addr} {vs : List Value} (hh : A.handled = none) (hl : s.heap.IsList l vs.toArray) : Src prog w A (.ref l) s vs.length (fun i v => vs[i]? = some v) := by
  have hlt : l < s.heap.objs.size := by obtain ⟨o, ho, _⟩ := hl; exact Heap.lt_size ho
  have W := Walks.list (prog := prog) (w := w) (A := A) hh s.heap.objs.size l (Nat.ne_of_lt hlt) vs.toArray
  have e1 : vs.toArray.size = vs.length := by simp
  have e2 : (fun (i : Nat) (v : Value) => vs.toArray[i]? = some v) = fun i v => vs[i]? = some v := by funext i v; simp
  rw [e1, e2] at W
  refine ⟨_, _, { cls := .type "list_iterator", data := .fields #[.ref l, .int 0 0] }, fun Q E h => wpAny_pyIter_list hl h, W, ⟨⟨_, Heap.get?_push_size _ rfl, rfl, rfl⟩, hl.at fun o e => Heap.get?_push_of_some _ e⟩, fun b hb => ?_⟩
  rcases List.mem_cons.mp hb with rfl | hb
  · exact Nat.lt_succ_self _
  · rw [List.mem_singleton.mp hb]; exact Nat.lt_succ_of_lt hlt
theorem walks_strong {I : Addr} {fp wr : List Addr} {n : Nat} {P : Nat → Value → Prop} {St : Nat → Heap → Prop} (W : Walks prog w A I fp wr n P St) : Walks prog w A I fp wr n (fun i v => i < n ∧ P i v) St where
  sub := W.sub
  frame := W.frame
  item := fun i s Q E hi st hQ => W.item i s Q E hi st fun v h' tk hP => hQ v h' tk ⟨hi, hP⟩
  done := W.done
  self := W.self
theorem src_range {r : Addr} {a b c : Int} {t u v : Tok} {n : Nat} (hh : A.handled = none) (hr : IsRange s.heap r a b c t u v) (hsmall : Builtin.Range.small a b c = true) (hn : Builtin.Range.rangeSize a b c = n) :
    Src prog w A (.ref r) s n (fun i v => i < n ∧ ∃ t, v = .int (a + i * c) t) := by
  have W := walks_strong (Walks.range (prog := prog) (w := w) (A := A) hh s.heap.objs.size a c n)
  refine ⟨_, _, { cls := .type "range_iterator", data := .fields #[rawInt a, rawInt (Builtin.Range.rangeSize a b c), rawInt c] }, fun Q E h => wpAny_pyIter_range hr hsmall h, W, ?_, fun b hb => ?_⟩
  · show IsRangeIter _ _ _ _ _; rw [hn]; simpa using Heap.get?_push_size _ rfl
  · rw [List.mem_singleton.mp hb]; exact Nat.lt_succ_self _
theorem comp_at {elt iter : Expr} {x : Str} {px : Pos} {ifs : List Expr} {scope : Scope} {cl : List (Str × Addr)} {pos : Pos} {Q : Value → Shared → Prop}
    (hclos : closureFor scope env = pure cl) (hcell : ∀ y ∈ scope.names, y.2 ≠ .cell) (hkind : scope.kind = .function)
    (hnames : ∀ y ∈ scope.names, y.2 = .local → scope.names.lookup y.1 = some .local) (hx : scope.names.lookup x = some .local)
    (h : wpAny (model prog w) A (eval iter env) (CompAt prog w A env scope cl x ifs elt Q) E s)
    (hs : ∀ x, foldedSetIterable iter env x = pure x := by intro _; rfl) :
    wpAny (model prog w) A (eval (.ListComp elt [⟨.Name x px, iter, ifs, 0⟩] scope pos) env) Q E s := by
  rw [eval_ListComp]
  refine wpAny_comprehension_free (use := none) rfl hs hclos hkind hnames (wpAny_mono h (fun xv s₁ h₁ => ?_) fun _ _ e => e)
  obtain ⟨n, P, h₀, L, m, news, p, FF, ⟨fp, St, oI, hiter, W, hst, hfp⟩, hsz, F, N, ht, he, hd⟩ := h₁
  refine hiter _ _ ?_
  generalize hH : s₁.heap.push oI = H1 at hst ⊢
  have old : ∀ b o, s₁.heap.get? b = some o → H1.get? b = some o := fun b o e => hH ▸ Heap.get?_push_of_some _ e
  have hsz1 : H1.objs.size = s₁.heap.objs.size + 1 := by rw [← hH, Heap.size_push]
  have turnFacts : ∀ (C : Addr) (s₃ : Shared) (m₃ : Str → Option Value), H1.objs.size ≤ C → s₃.heap.Ns C m₃ → (∀ b o, b ∉ [s₁.heap.objs.size] → H1.get? b = some o → s₃.heap.get? b = some o) →
      ∃ oC, LCg.NsObj oC m₃ ∧ Fr h₀ L s₃.heap m ∧ News h₀ L s₃.heap ((C, oC) :: news) ∧ (∀ q ∈ news, q.1 < C) := by
    intro C s₃ m₃ hC hn hk
    obtain ⟨oC, hoC, hns⟩ := LCg.ns_obj hn
    have k3 : ∀ b o, s₁.heap.get? b = some o → s₃.heap.get? b = some o := fun b o e => hk b o (by
      intro hm
      rw [List.mem_singleton.mp hm] at e
      exact absurd (Heap.lt_size e) (Nat.lt_irrefl _)) (old b o e)
    have hCn : s₁.heap.objs.size ≤ C := by rw [hsz1] at hC; exact Nat.le_of_succ_le hC
    have hnone : s₁.heap.get? C = none := Heap.get?_none_of_le hCn
    refine ⟨oC, hns, F.keeps k3, fun q hq => ?_, fun q hq => Nat.lt_of_lt_of_le (Heap.lt_size (N q hq).1) hCn⟩
    rcases List.mem_cons.mp hq with rfl | hq
    · refine ⟨hoC, fun e => ?_, ?_⟩
      · have := F.ns.lt
        rw [← e] at this
        exact absurd (Nat.lt_of_lt_of_le this hCn) (Nat.lt_irrefl _)
      · cases q : h₀.get? C with
        | none => rfl
        | some o => have := F.keep _ _ q; rw [hnone] at this; cases this
    · exact ⟨k3 _ _ (N q hq).1, (N q hq).2⟩
  refine comp_block_walkC (RR := fun acc C => compPost (model prog w) A E none Q acc C) (s₂ := { s₁ with heap := H1 }) W hsz p FF hcell hkind hx hst (fun b hb => ?_) ⟨?_, ?_⟩ ?_
  · show b < H1.objs.size; rw [hsz1]; exact hfp b hb
  · intro C i v s₃ m₃ E' hC hP hn hm hk _
    obtain ⟨oC, h1, h2, h3, h4⟩ := turnFacts C s₃ m₃ hC hn hk
    exact ht i v C oC m₃ s₃ E' hP h1 hm h2 h3 h4
  · intro C i v s₃ m₃ E' hC hP hp hn hm hk _
    obtain ⟨oC, h1, h2, h3, h4⟩ := turnFacts C s₃ m₃ hC hn hk
    exact he i v C oC m₃ s₃ E' hP hp h1 hm h2 h3 h4
  · intro D C h' tk m' ys vs' hD hC hDC hn hlD hplD hlen hP hF hk
    refine ⟨m', hn, fun h'' hs'' => ?_⟩
    have k1 : ∀ b o, s₁.heap.get? b = some o → h''.get? b = some o := fun b o e => hs''.extBut b o (by
      rintro rfl
      have := old _ _ e
      rw [hC] at this; cases this) (hk b o (by
      intro hm
      rw [List.mem_singleton.mp hm] at e
      exact absurd (Heap.lt_size e) (Nat.lt_irrefl _)) (old b o e))
    have hD1 : s₁.heap.get? D = none := by
      cases q : s₁.heap.get? D with
      | none => rfl
      | some o => have := old _ _ q; rw [hD] at this; cases this
    exact hd D h'' tk vs' ys.toList hlen hP (F.keeps k1) (fun q hq => ⟨k1 _ _ (N q hq).1, (N q hq).2⟩) (by simpa using hplD.extBut hs''.extBut hDC) hD1 k1 hF
end
end Mine
namespace Mine
section
variable {prog : Program} {w : World} {A : Around} {E : Value → Shared → Prop} {s : Shared} {h₀ h₁ : Heap} {L : Addr} {m : Str → Option Value} {news : List (Addr × Obj)} {x : Str} {t : Tok} {value slice : PySem.Expr} {Q : Value → Shared → Prop}
theorem kept_elt : KeptH (fun h' => (Fr h₀ L h' m ∧ News h₀ L h' news) ∧ InElt h₁ h') := fun h ob ⟨⟨F, N⟩, k⟩ => ⟨⟨F.push _, fun p hp => ⟨Heap.get?_push_of_some _ (N p hp).1, (N p hp).2⟩⟩, fun b o e => Heap.get?_push_of_some _ (k b o e)⟩
theorem slice_keep_ns {j : Int} {uj : Tok} (hF : Fr h₀ L s.heap m) (hN : News h₀ L s.heap news) (hE : InElt h₁ s.heap) (h : ∀ h' t' k, Fr h₀ L h' m → News h₀ L h' news → InElt h₁ h' → (Txt.slice x none (some j)).length ≤ x.length → Q (.str (Txt.slice x none (some j)) t') { s with heap := h', toks := k })
    (hs : subscripted slice false (.str x t) (.ref s.heap.objs.size) = operate [.ref s.heap.objs.size, .str x t] (getItem (.str x t) (.ref s.heap.objs.size)) := by with_unfolding_all rfl)
    (ht : ∀ r, letTemporaryGo value (.str x t) r = pure () := by intro _; with_unfolding_all rfl) (hsz : x.length ≤ sizeLine := by size_fits) :
    wpAny (model prog w) A (subscriptTail value slice (.str x t) (.ref s.heap.objs.size)) Q E { s with heap := s.heap.push { cls := .type "slice", data := .fields #[.none, .int j uj, .none] } } :=
  tail_of_ItemOn (SBH.sliceItem_ns kept_elt ⟨⟨hF, hN⟩, hE⟩ (fun h' t' k a => h h' t' k a.1.1 a.1.2 a.2 (Txt.slice_le _ _ _)) hsz) hs ht
theorem slice_keep_sn {i : Int} {ui : Tok} (hF : Fr h₀ L s.heap m) (hN : News h₀ L s.heap news) (hE : InElt h₁ s.heap) (h : ∀ h' t' k, Fr h₀ L h' m → News h₀ L h' news → InElt h₁ h' → (Txt.slice x (some i) none).length ≤ x.length → Q (.str (Txt.slice x (some i) none) t') { s with heap := h', toks := k })
    (hs : subscripted slice false (.str x t) (.ref s.heap.objs.size) = operate [.ref s.heap.objs.size, .str x t] (getItem (.str x t) (.ref s.heap.objs.size)) := by with_unfolding_all rfl)
    (ht : ∀ r, letTemporaryGo value (.str x t) r = pure () := by intro _; with_unfolding_all rfl) (hsz : x.length ≤ sizeLine := by size_fits) :
    wpAny (model prog w) A (subscriptTail value slice (.str x t) (.ref s.heap.objs.size)) Q E { s with heap := s.heap.push { cls := .type "slice", data := .fields #[.int i ui, .none, .none] } } :=
  tail_of_ItemOn (SBH.sliceItem_sn kept_elt ⟨⟨hF, hN⟩, hE⟩ (fun h' t' k a => h h' t' k a.1.1 a.1.2 a.2 (Txt.slice_le _ _ _)) hsz) hs ht
theorem after_elt {P : Heap → Nat → Prop} (hF : Fr h₀ L s.heap m) (hN : News h₀ L s.heap news) (hE : InElt h₁ s.heap) (h : ∀ h' tk', Fr h₀ L h' m → News h₀ L h' news → InElt h₁ h' → P h' tk') : ∀ h' tk', s.heap.StaysIn h' → P h' tk' :=
  fun h' tk' k => h h' tk' (hF.keeps k) (fun p hp => ⟨k _ _ (hN p hp).1, (hN p hp).2⟩) fun b o e => k b o (hE b o e)
theorem after_st {P : Heap → Nat → Prop} (hF : Fr h₀ L s.heap m) (hN : News h₀ L s.heap news) (h : ∀ h' tk', Fr h₀ L h' m → News h₀ L h' news → P h' tk') : ∀ h' tk', s.heap.StaysIn h' → P h' tk' :=
  fun h' tk' k => h h' tk' (hF.keeps k) (fun p hp => ⟨k _ _ (hN p hp).1, (hN p hp).2⟩)
theorem upper_slice {lo hi : Option Int} (hx : x.length ≤ 100000) (h : (Txt.upper (Txt.slice x lo hi)).length ≤ 3 * x.length → Q (.str (Txt.upper (Txt.slice x lo hi)) s.toks) { s with toks := s.toks + 1 }) :
    wpAny (model prog w) A (call (.builtin "str.upper") [.str (Txt.slice x lo hi) t]) Q E s :=
  SCL.upper (Nat.le_trans (Txt.slice_le x lo hi) (by omega)) fun h1 => h (Nat.le_trans h1 (Nat.mul_le_mul_left _ (Txt.slice_le x lo hi)))
end
end Mine
end
section
open PySem PySem.W PyProof.Rows
set_option maxRecDepth 100000
set_option maxHeartbeats 2000000
namespace Mine
/-- what a name is asked as -/
def ask (x : Str) : Str := Txt.upper (Txt.slice x none (some 1)) ++ Txt.slice x (some 1) none ++ Str.ofString "*/abbaaabab/"
def askP (axs : List Str) (x : Str) : Bool := axs.any (hits (ask x))
def askV (axs : List Str) : Value → Bool
  | .str x _ => askP axs x
  | _ => false
theorem strs_filter {pv : Value → Bool} {q : Str → Bool} (hpq : ∀ x t, pv (.str x t) = q x) : ∀ {vs : List Value} {xs : List Str}, Strs vs xs → Strs (vs.filter pv) (xs.filter q)
  | _, _, .nil => .nil
  | _, _, .cons y t (vs := vs) (ys := ys) h => by
    have ih := strs_filter hpq h
    by_cases hq : q y = true
    · rw [List.filter_cons_of_pos (by rw [hpq]; exact hq), List.filter_cons_of_pos hq]; exact .cons y t ih
    · rw [List.filter_cons_of_neg (by rw [hpq]; exact hq), List.filter_cons_of_neg hq]; exact ih
theorem paired_eq {vs ys : List Value} (h : Paired (fun v y => y = v) vs ys) : ys = vs := by
  induction h with
  | nil => rfl
  | cons e _ ih => rw [e, ih]
theorem up_down {g h1 h2 : Heap} {L' : Addr} {m : Str → Option Value} {fr : List Addr} (F : Fr g L' h1 m) (U : Up (L' :: fr) h1 h2) : Up fr g h2 := by
  intro b o ho
  have hb : b ≠ L' := Nat.ne_of_lt (Nat.lt_of_lt_of_le (Heap.lt_size ho) F.above)
  have := U b o (F.keep b o ho)
  exact ⟨fun hn => this.1 fun hm => (List.mem_cons.mp hm).elim hb hn, fun hm => this.2 (.tail _ hm)⟩
theorem none_down {g h1 : Heap} {L' D : Addr} {m : Str → Option Value} (F : Fr g L' h1 m) (hn : h1.get? D = none) : g.get? D = none := by
  cases q : g.get? D with
  | none => rfl
  | some o => have := F.keep _ _ q; rw [hn] at this; cases this
local macro_rules | `(tactic| k_room) => `(tactic| ktr_room)
local macro_rules | `(tactic| walk_at "eval ListComp") => `(tactic| (k_here; k_dflt (refine comp_at (by with_unfolding_all rfl) (by decide) (by rfl) (by decide) (by rfl) ?_)))
local macro_rules | `(tactic| k_inst) => `(tactic| exact inst_up (by assumption) (Fr.keep (by k_asm)))
local macro_rules | `(tactic| k_get) => `(tactic| assumption)
local macro_rules | `(tactic| walk_at "call builtin:str.upper") => `(tactic| ((with_reducible show wpAny _ _ (call (Value.builtin "str.upper") _) _ _ _); refine upper_slice (by omega) ?_; intro _))
local macro_rules | `(tactic| walk_at "subscriptTail Name Slice str ref") => `(tactic| ((with_reducible show wpAny _ _ (subscriptTail _ (Expr.Slice none (some _) none _) _ _) _ _ _); (with_reducible rename InElt _ _ => kE'); (refine slice_keep_ns (s := ⟨_, _, _, _, _⟩) (by assumption) (by assumption) kE' ?_); clear kE'; intro _ _ _ F' N' kE' _))
local macro_rules | `(tactic| walk_at "subscriptTail Name Slice str ref") => `(tactic| ((with_reducible show wpAny _ _ (subscriptTail _ (Expr.Slice (some _) none none _) _ _) _ _ _); (with_reducible rename InElt _ _ => kE'); (refine slice_keep_sn (s := ⟨_, _, _, _, _⟩) (by assumption) (by assumption) kE' ?_); clear kE'; intro _ _ _ F' N' kE' _))
local macro_rules | `(tactic| walk_at "call ref") => `(tactic| (k_here; (with_reducible show wpAny _ _ (call (Value.ref 49) [Value.ref _, Value.str _ _]) _ _ _); (with_unfolding_all refine' applies_c ?k1 ?k2 ?k3 ?k4 ?k5 ?k6 ?k7 ?k8 ?k9 ?k10 ?k11 ?k12 ?k13 (after_elt ?k14 ?k15 ?k16 ?_)); (case k1 => k_asm); (case k2 => k_asm); (case k3 => k_asm); (case k4 => k_asm); (case k5 => exact rfl); (case k6 => ktr_room); (case k7 => ktr_units); (case k8 => k_inst); (case k9 => k_get); (case k10 => ((have hq : (PySem.Str.ofString "*/abbaaabab/").length = 12 := by decide); simp only [Str.length_append, hq]; omega)); (case k11 => is_list); (case k12 => assumption); (case k13 => assumption); (case k14 => k_asm); (case k15 => k_asm); (case k16 => k_asm); k_whole; intro h' tk' F' N' kE'))
theorem bne_false_eq (b : Bool) : (b != false) = b := by cases b <;> rfl
local macro_rules | `(tactic| walk_at "call ref") => `(tactic| ((with_reducible show wpAny _ _ (call (Value.ref 107) _) _ _ _); refine hold_ ?_))
theorem left_c {w : World} {loose : List Str} {mean : ExcName → Option Value} {mg mb : Str → Option Value}
  {dp un : Nat} {gd : Option (List Code)} {cn : Str} {cs : Scope} {a : Addr} {ccd : Value} {cl : List (Str × Addr)} {outer : List Env} {A₀ : Around} {base h₀ : Heap} {L : Addr} {m : Str → Option Value} {s : Shared} {Q E : Value → Shared → Prop}
  {one d l nl : Addr} {es : List DictEntry} {n : Nat} {sl : Array (Option Value)} {avs vs : List Value} {axs xs : List Str}
  (B : Below A₀ base outer h₀) (F : Fr h₀ L s.heap m) (X : (hd.heap_39 w.params).In h₀) (T : Top hd.view_39 loose mean mg mb h₀) (hk : cs.kind = .function) (hdp : dp + 16 < recursionLimit) (hun : un + 128 < cLine)
  (I : InstAt s.heap one ⟨.ref 59, some d, .plain, sl⟩ 59 (some (dictOf es n)))
  (he : getL "useragents" es = some (some (.ref l))) (he2 : getL "applies_to" es = some none)
  (hla : s.heap.IsList l avs.toArray) (hsa : Strs avs axs) (hxa : ∀ x ∈ axs, x.length ≤ 100000)
  (hl : s.heap.IsList nl vs.toArray) (hs : Strs vs xs) (hxs : ∀ x ∈ xs, x.length ≤ 1000) (hsz : vs.length ≤ 100000)
  (hret : ∀ (D : Addr) (c : Nat) (h' : Heap) (tk' : Nat), Up (L :: outer.filterMap (·.frame)) s.heap h' → h'.get? D = some (lstObj (vs.filter (keepP (xs.filter (askP axs)))).toArray c) → s.heap.get? D = none → Q (.ref D) { s with heap := h', toks := tk' }) :
  wpAny (model Challenge.rw_ij0195_03.row.prog w) (ktrTop dp un gd cn cs L a ccd cl outer) (call (.ref 124) [.ref one, .ref nl]) Q E s := by
  w_strict (
    (revert X; k_fill; intro X)
    refine wpAny_call ?_
    refine' callPC ?k1 ?k2 ?k3 ?k5 ?kA ?kF ?kK ?k6 ?k7 ?k8 ?k9 ?kB ?kD ?_ ?c2 ?c3 ?c4
    (case kA => exact rfl); (case kF => exact rfl); (case kK => assumption); (case k1 => k_asm); (case k2 => k_asm); (case k3 => k_asm); (case k5 => k_asm); (case k6 => k_is); (case k7 => k_is); (case k8 => ktr_room); (case k9 => exact BindsTo.of_eq rfl); (case kB => exact kindsX rfl); (case kD => decide +kernel); (case c2 => exact rfl); (case c3 => exact rfl); (case c4 => exact rfl)
    k_whole
    intro L' h' tk' cells' F' N' Y' B' X' T'
    k_cells Y'
    (try simp only [List.cons_append, List.nil_append] at N')
    (try dsimp only)
    (try k_lift B')
    (try k_fold)
    k_steps
    refine ⟨_, _, _, _, _, _, askV axs, fun v y => y = v, src_list (vs := vs) rfl (by is_list), by rw [sizeLine_eq]; omega, (by k_asm), (by k_asm), ?ht, ?he, ?hd⟩
    (case ht =>
      intro i v C oC m₂ s₃ E' hv hC hm F3 N3 hlt
      obtain ⟨x, t, hx, e⟩ := strs_get hs hv
      subst e
      have hbx := hxs _ (List.mem_of_getElem? hx)
      refine wpAny_tests_one ?_
      k_steps
      · exact bne_false_eq _
      · exact ⟨_, _, rfl, by assumption⟩)
    (case he =>
      intro i v C oC m₂ s₃ E' hv hp hC hm F3 N3 hlt
      k_steps
      · exact ⟨_, _, rfl, fun b o e => e⟩)
    (case hd =>
      intro D h2 tk2 vs' ys hlen hitems F2 N2 hD hDn hst hP
      (obtain rfl := items_eq hlen hitems)
      have eys := paired_eq hP
      subst eys
      k_steps
      refine of_hold ?_
      with_unfolding_all refine' filter_c ?j1 ?j2 ?j3 ?j4 ?j5 ?j6 ?j7 ?j8 ?j9 ?j10 ?j11 ?j12 ?_
      (case j1 => exact B')
      (case j2 => k_asm)
      (case j3 => k_asm)
      (case j4 => k_asm)
      (case j5 => exact rfl)
      (case j6 => ktr_room)
      (case j7 => ktr_units)
      (case j8 => is_list)
      (case j9 => exact hs)
      (case j10 => exact hD)
      (case j11 => exact strs_filter (fun x t => rfl) hs)
      (case j12 => exact hsz)
      intro D2 c h3 tk3 hU hS hn
      k_steps
      exact hret D2 c h3 tk3 (up_down F2 hU) hS (none_down F2 hn)))
end Mine
end
section
open PySem PySem.W PyProof.Rows
set_option maxRecDepth 100000
set_option maxHeartbeats 2000000
namespace Mine
local macro_rules | `(tactic| k_room) => `(tactic| ktr_room)
local macro_rules | `(tactic| walk_at "eval ListComp") => `(tactic| (k_here; k_dflt (refine comp_at (by with_unfolding_all rfl) (by decide) (by rfl) (by decide) (by rfl) ?_)))
def letter (b : Bool) : Str := if b then Str.ofString "b" else Str.ofString "a"
def IsLet (y : Value) : Prop := ∃ b t, y = .str (letter b) t
theorem let_item {j : Int} {t : Tok} : IsLet (.str (Txt.item (Str.ofString "ab") (j.fmod 2)) t) := by
  have h0 : 0 ≤ j.fmod 2 := Int.fmod_nonneg_of_pos j (by decide)
  have h2 : j.fmod 2 < 2 := Int.fmod_lt_of_pos j (by decide)
  have : j.fmod 2 = 0 ∨ j.fmod 2 = 1 := by omega
  rcases this with e | e <;> rw [e]
  · exact ⟨false, t, by rw [show Txt.item (Str.ofString "ab") 0 = letter false from by decide]⟩
  · exact ⟨true, t, by rw [show Txt.item (Str.ofString "ab") 1 = letter true from by decide]⟩
theorem lets_of : ∀ {vs ys : List Value}, Paired (fun _ y => IsLet y) vs ys → ∃ bs : List Bool, bs.length = vs.length ∧ Strs ys (bs.map letter)
  | _, _, .nil => ⟨[], rfl, .nil⟩
  | _, _, .cons ⟨b, t, e⟩ h => by
    obtain ⟨bs, hl, hs⟩ := lets_of h
    subst e
    exact ⟨b :: bs, by simp [hl], .cons _ t hs⟩
def wordText (bs : List Bool) : Str := Txt.join (Str.ofString "") (bs.map letter)
def agentText (bs : List Bool) (up : Bool) : Str := if up then Txt.upper (wordText bs) else wordText bs
theorem letter_len (b : Bool) : (letter b).length = 1 := by cases b <;> rfl
theorem lets_sum : ∀ bs : List Bool, ((bs.map letter).map (·.length)).sum = bs.length
  | [] => rfl
  | b :: bs => by simp only [List.map_cons, List.sum_cons, letter_len, List.length_cons]; rw [lets_sum bs]; omega
theorem word_len (bs : List Bool) : (wordText bs).length ≤ bs.length := by
  show (Builtin.Str.glued (Str.ofString "") (bs.map letter)).length ≤ _
  rw [StrLaws.glued_eq_join]
  refine Nat.le_trans (StrLaws.join_length_le _ _) ?_
  rw [lets_sum, show (Str.ofString "").length = 0 from rfl]
  omega
theorem agent_c {w : World} {loose : List Str} {mean : ExcName → Option Value} {mg mb : Str → Option Value}
  {dp un : Nat} {gd : Option (List Code)} {cn : Str} {cs : Scope} {a : Addr} {ccd : Value} {cl : List (Str × Addr)} {outer : List Env} {A₀ : Around} {base h₀ : Heap} {L : Addr} {m : Str → Option Value} {s : Shared} {Q E : Value → Shared → Prop}
  {n : Int} {tn : Tok}
  (B : Below A₀ base outer h₀) (F : Fr h₀ L s.heap m) (X : (hd.heap_39 w.params).In h₀) (T : Top hd.view_39 loose mean mg mb h₀) (hk : cs.kind = .function) (hdp : dp + 16 < recursionLimit) (hun : un + 128 < cLine)
  (hret : ∀ (bs : List Bool) (up : Bool) (t : Tok) (h' : Heap) (tk' : Nat), 1 ≤ bs.length → bs.length ≤ 3 → s.heap.StaysIn h' → Q (.str (agentText bs up) t) { s with heap := h', toks := tk' }) :
  wpAny (model Challenge.rw_ij0195_03.row.prog w) (ktrTop dp un gd cn cs L a ccd cl outer) (call (.ref 112) [.int n tn]) Q E s := by
  w_strict (
    (revert X; k_fill; intro X)
    refine wpAny_call ?_
    refine' callPC ?k1 ?k2 ?k3 ?k5 ?kA ?kF ?kK ?k6 ?k7 ?k8 ?k9 ?kB ?kD ?_ ?c2 ?c3 ?c4
    (case kA => exact rfl); (case kF => exact rfl); (case kK => assumption); (case k1 => k_asm); (case k2 => k_asm); (case k3 => k_asm); (case k5 => k_asm); (case k6 => k_is); (case k7 => k_is); (case k8 => ktr_room); (case k9 => exact BindsTo.of_eq rfl); (case kB => exact kindsX rfl); (case kD => decide +kernel); (case c2 => exact rfl); (case c3 => exact rfl); (case c4 => exact rfl)
    k_whole
    intro L' h' tk' cells' F' N' Y' B' X' T'
    k_cells Y'
    (try simp only [List.cons_append, List.nil_append] at N')
    (try dsimp only)
    (try k_lift B')
    (try k_fold)
    k_steps
    have h0 : 0 ≤ n.fmod 3 := Int.fmod_nonneg_of_pos n (by decide)
    have h3 : n.fmod 3 < 3 := Int.fmod_lt_of_pos n (by decide)
    obtain ⟨N, hN, hN1, hN3⟩ : ∃ N : Nat, n.fmod 3 + 1 = (N : Int) ∧ 1 ≤ N ∧ N ≤ 3 := ⟨(n.fmod 3 + 1).toNat, by omega, by omega, by omega⟩
    refine ⟨N, _, _, _, _, _, fun _ => true, fun _ y => IsLet y, src_range (n := N) rfl (by assumption) ?hs1 ?hs2, by rw [sizeLine_eq]; omega, (by k_asm), (by k_asm), ?ht, ?he, ?hd⟩
    (case hs1 => (rw [hN]); (have : N = 1 ∨ N = 2 ∨ N = 3 := by omega); (rcases this with rfl | rfl | rfl <;> decide))
    (case hs2 => (rw [hN]); (have : N = 1 ∨ N = 2 ∨ N = 3 := by omega); (rcases this with rfl | rfl | rfl <;> decide))
    (case ht => (intro i v C oC m₂ s₃ E' hv hC hm F3 N3 hlt; exact wpAny_tests_nil ⟨rfl, _, _, rfl, fun _ _ e => e⟩))
    (case he =>
      intro i v C oC m₂ s₃ E' hv hp hC hm F3 N3 hlt
      obtain ⟨hi, t, e⟩ := hv
      subst e
      have : i = 0 ∨ i = 1 ∨ i = 2 := by omega
      rcases this with rfl | rfl | rfl
      all_goals (try simp only [Int.natCast_zero, Int.zero_mul, Int.add_zero, Int.natCast_one, Int.one_mul, Int.zero_add] at hm)
      all_goals k_steps
      all_goals first
        | exact let_item
        | exact ⟨_, _, rfl, fun _ _ e => e⟩)
    (case hd =>
      intro D h2 tk2 vs' ys hlen hitems F2 N2 hD hDn hst hP
      obtain ⟨bs, hbs, hys⟩ := lets_of hP
      have hys2 := hD.isList
      have hbl : bs.length = N := by rw [hbs, ← hlen]; simp
      have hwl := word_len bs
      k_steps
      refine join_listC hys2 (by simpa using hys) (by decide) (by rw [lets_sum, List.length_map]; omega) fun t3 k3 => ?_
      (try dsimp only)
      (try k_fold)
      k_steps
      · refine SCL.upper (x := wordText bs) (Nat.le_trans hwl (by omega)) fun _ => ?_
        (try dsimp only)
        (try k_fold)
        k_steps
        exact hret bs true _ _ _ (by omega) (by omega) (Fr.keep (by assumption))
      · (try dsimp only)
        (try k_fold)
        k_steps
        exact hret bs false _ _ _ (by omega) (by omega) (Fr.keep (by assumption))))
end Mine
end
section
open PySem PySem.W PyProof.Rows
set_option maxRecDepth 100000
set_option maxHeartbeats 2000000
namespace Mine
local macro_rules | `(tactic| k_room) => `(tactic| ktr_room)
theorem slice_up1 (vs : List Value) : (slicePick vs.toArray none (some 1) none).toList = vs.take 1 := by
  have := slicePick_upto' vs.toArray 1
  rw [show ((1 : Nat) : Int) = 1 from rfl] at this
  rw [this]
theorem slice_from1 (vs : List Value) : (slicePick vs.toArray (some 1) none none).toList = vs.drop 1 := by
  have := slicePick_from' vs.toArray 1
  rw [show ((1 : Nat) : Int) = 1 from rfl] at this
  rw [this]
local macro_rules | `(tactic| walk_at "subscriptTail Name Slice ref ref") => `(tactic| (k_here; (with_reducible show wpAny _ _ (subscriptTail _ (PySem.Expr.Slice none (some _) none _) (Value.ref _) (Value.ref _)) _ _ _); k_dflt (refine' kmk_slice_lit ?F ?N ?l ?p ?q ?e ?_ ?s ?t ?z; (case F => k_asm); (case N => k_asm); (case l => is_list); (case p => kmk_part); (case q => kmk_part); (case e => exact slice_up1 _); (case s => with_unfolding_all rfl); (case t => kmk_pure); (case z => (rw [List.size_toArray, sizeLine_eq]; omega))); intro D' h' F' N' l1; (try k_lt l1); (try k_sweep)))
local macro_rules | `(tactic| walk_at "subscriptTail Name Slice ref ref") => `(tactic| (k_here; (with_reducible show wpAny _ _ (subscriptTail _ (PySem.Expr.Slice (some _) none none _) (Value.ref _) (Value.ref _)) _ _ _); k_dflt (refine' kmk_slice_lit ?F ?N ?l ?p ?q ?e ?_ ?s ?t ?z; (case F => k_asm); (case N => k_asm); (case l => is_list); (case p => kmk_part); (case q => kmk_part); (case e => exact slice_from1 _); (case s => with_unfolding_all rfl); (case t => kmk_pure); (case z => (rw [List.size_toArray, sizeLine_eq]; omega))); intro D' h' F' N' l1; (try k_lt l1); (try k_sweep)))
local macro_rules | `(tactic| walk_at "binaryOp Add ref ref") => `(tactic| (k_here; (with_reducible show wpAny _ _ (binaryOp _ (Value.ref _) (Value.ref _)) _ _ _); k_dflt (refine' kmk_add_lit ?F ?N ?a ?b ?e ?_ ?z; (case F => k_asm); (case N => k_asm); (case a => is_list); (case b => is_list); (case e => exact rfl); (case z => (simp only [List.length_append, List.length_take, List.length_drop, List.length_cons, List.length_nil, sizeLine_eq]; omega))); intro D' h' F' N' l1; (try k_lt l1); (try k_sweep)))
local macro_rules | `(tactic| walk_at "call builtin:list.extend") => `(tactic| (k_here; (with_reducible show wpAny _ _ (call (Value.builtin _) [Value.ref _, Value.ref _]) _ _ _); k_dflt (refine' kl_extend ?F ?N ?b ?e ?ne ?U ?d ?z ?y ?_; (case F => k_asm); (case N => k_asm); (case b => k_mem); (case U => k_upd); (case e => exact rfl); (case ne => (simp; done)); (case d => (simp; done)); (case z => (simp; done)); (case y => (simp [sizeLine_eq]; omega))); kl_rest))
theorem star_strs {vs : List Value} {xs : List Str} {t : Tok} (hs : Strs vs xs) : Strs (vs.take 1 ++ [Value.str (Str.ofString "*") t] ++ vs.drop 1) (xs.take 1 ++ Str.ofString "*" :: xs.drop 1) := by
  have h9 := ((StrsAre.take' hs 1).append' (.cons (Str.ofString "*") t .nil)).append' (StrsAre.drop' hs 1)
  have e : xs.take 1 ++ [Str.ofString "*"] ++ xs.drop 1 = xs.take 1 ++ Str.ofString "*" :: xs.drop 1 := by rw [List.append_assoc, List.singleton_append]
  rw [e] at h9
  exact h9
theorem record_c {w : World} {loose : List Str} {mean : ExcName → Option Value} {mg mb : Str → Option Value}
  {dp un : Nat} {gd : Option (List Code)} {cn : Str} {cs : Scope} {a : Addr} {ccd : Value} {cl : List (Str × Addr)} {outer : List Env} {A₀ : Around} {base h₀ : Heap} {L : Addr} {m : Str → Option Value} {s : Shared} {Q E : Value → Shared → Prop}
  {al : Addr} {vs : List Value} {xs : List Str}
  (B : Below A₀ base outer h₀) (F : Fr h₀ L s.heap m) (X : (hd.heap_39 w.params).In h₀) (T : Top hd.view_39 loose mean mg mb h₀) (hk : cs.kind = .function) (hdp : dp + 16 < recursionLimit) (hun : un + 128 < cLine)
  (hl : s.heap.IsList al vs.toArray) (hs : Strs vs xs) (hsz : vs.length ≤ 1000)
  (hret : ∀ (one d l : Addr) (es : List DictEntry) (n c : Nat) (avs : List Value) (h' : Heap) (tk' : Nat), Strs avs (xs.take 1 ++ Str.ofString "*" :: xs.drop 1) → getL "useragents" es = some (some (.ref l)) → getL "applies_to" es = some none →
    s.heap.StaysIn h' → h'.get? one = some (instObj 59 d) → h'.get? d = some (dictOf es n) → h'.get? l = some (lstObj avs.toArray c) → s.heap.get? one = none → s.heap.get? d = none → s.heap.get? l = none → Q (.ref one) { s with heap := h', toks := tk' }) :
  wpAny (model Challenge.rw_ij0195_03.row.prog w) (ktrTop dp un gd cn cs L a ccd cl outer) (call (.ref 119) [.ref al]) Q E s := by
  w_strict (
    (revert X; k_fill; intro X)
    refine wpAny_call ?_
    refine' callP ?k1 ?k2 ?k3 ?k5 ?kA ?kF ?kK ?k6 ?k7 ?k8 ?k9 ?kB ?_ ?c2 ?c3 ?c4 ?c5
    (case kA => exact rfl); (case kF => exact rfl); (case kK => assumption); (case k1 => k_asm); (case k2 => k_asm); (case k3 => k_asm); (case k5 => k_asm); (case k6 => k_is); (case k7 => k_is); (case k8 => ktr_room); (case k9 => exact BindsTo.of_eq rfl); (case c5 => decide); (case kB => exact locs rfl); (case c2 => exact rfl); (case c3 => exact rfl); (case c4 => exact rfl)
    k_whole
    intro L' h' F' N' B' X' T'
    (try dsimp only)
    (try k_lift B')
    (try k_fold)
    k_steps
    (try simp only [List.cons_append, List.nil_append])
    k_steps
    (with_reducible rename News _ _ _ _ => N9)
    (with_reducible rename Fr _ _ _ _ => F9)
    refine' hret _ ?d ?l ?es ?n ?c ?avs _ _ ?q1 ?q2 ?q3 F9.keep (N9.get ?q4) (N9.get ?q5) (N9.get ?q6) (N9.fresh ?q7) (N9.fresh ?q8) (N9.fresh ?q9)
    (case q4 => k_mem)
    (case q5 => k_mem)
    (case q2 => k_get)
    (case q3 => k_get)
    (case q6 => (repeat' (first | exact List.Mem.head _ | refine List.Mem.tail _ ?_)))
    (case q7 => k_mem)
    (case q8 => k_mem)
    (case q9 => k_mem)
    (case q1 => exact star_strs hs))
end Mine
end
section
open PySem PySem.W PyProof.Rows PySem.Calls
set_option maxRecDepth 100000
set_option maxHeartbeats 0
namespace Mine
abbrev E2 (elt : Expr) (x : Str) (px : Pos) (i1 : Expr) (y : Str) (py : Pos) (i2 : Expr) (ifs2 : List Expr) (scope : Scope) (pos : Pos) : Expr := .ListComp elt [⟨.Name x px, i1, [], 0⟩, ⟨.Name y py, i2, ifs2, 0⟩] scope pos
section
variable {prog : Program} {w : World} {A : Around} {E : Value → Shared → Prop} {s : Shared} {elt i1 i2 : Expr} {x y : Str} {px py : Pos} {ifs2 : List Expr} {scope : Scope} {pos : Pos} {cenv : Env} {R : Result → Shared → Prop}
theorem turn_outer (it acc : Value) (env : Env) :
    compTurn (E2 elt x px i1 y py i2 ifs2 scope pos) 0 it acc env = (do
      standAt i1.pos
      match ← pyNext it with
      | none => pure (.done .next)
      | some v =>
        letOwnedTupleGo (.Name x px) it v
        assign (.Name x px) env v
        let z ← eval i2 env
        standAt i2.pos
        let z ← foldedSetIterable i2 env z
        let q ← holding [z] (pyIter z)
        let _ ← runOwn (.compStart (E2 elt x px i1 y py i2 ifs2 scope pos) 1 q acc env) env
        again (.compLoop (E2 elt x px i1 y py i2 ifs2 scope pos) 0 it acc env)) := by
  unfold compTurn
  simp
  rfl
theorem turn_inner (it acc : Value) (env : Env) :
    compTurn (E2 elt x px i1 y py i2 ifs2 scope pos) 1 it acc env = (do
      standAt i2.pos
      match ← pyNext it with
      | none => pure (.done .next)
      | some v =>
        letOwnedTupleGo (.Name y py) it v
        assign (.Name y py) env v
        let mut ok := true
        for c in ifs2 do
          if ok then ok ← isTrue c env (eval c env)
        if ok then
          (do let _ ← call (.builtin "list.append") [acc, ← eval elt env])
        again (.compLoop (E2 elt x px i1 y py i2 ifs2 scope pos) 1 it acc env)) := by rfl
theorem start_inner {it acc : Value} (h0 : codeAny (model prog w) A (.compLoop (E2 elt x px i1 y py i2 ifs2 scope pos) 1 it acc cenv) R s)
    (h : wpAny (model prog w) A (pyIter it) (fun it' s' => codeAny (model prog w) A (.compLoop (E2 elt x px i1 y py i2 ifs2 scope pos) 1 it' acc cenv) R s') (notedBy (model prog w) A cenv fun x s' => R (.error x) s') s) :
    codeAny (model prog w) A (.compStart (E2 elt x px i1 y py i2 ifs2 scope pos) 1 it acc cenv) R s := by
  refine codeAny_of_tree ?_
  show wpAny _ _ ((compStart (E2 elt x px i1 y py i2 ifs2 scope pos) 1 it acc cenv).onRaise (fun x => do noteFrame x cenv; standAt theWindowsPlace)) _ _ s
  refine wpAny_notedAt ?_
  unfold compStart
  show wpAny _ _ (PySem.ask >>= _) _ _ s
  refine wpAny_bind (wpAny_askSetting (wpAny_ite ?_))
  split
  · first
      | exact wpAny_bind (wpAny_pure (wpAny_pure (And.intro rfl h0)))
      | exact wpAny_pure (And.intro rfl h0)
  · first
      | exact wpAny_bind (wpAny_rule (wpAny_bind (wpAny_standAt (wpAny_bind (wpAny_mono h (fun it' s' h' => wpAny_pure (And.intro rfl h')) fun _ _ x => x)))))
      | (refine wpAny_bind (wpAny_rule ?_); show wpAny _ _ (standAt i2.pos >>= _) _ _ s; exact wpAny_bind (wpAny_standAt (wpAny_bind (wpAny_mono h (fun it' s' h' => wpAny_pure (And.intro rfl h')) fun _ _ x => x))))
theorem start_outer {it acc : Value} (h0 : codeAny (model prog w) A (.compLoop (E2 elt x px i1 y py i2 ifs2 scope pos) 0 it acc cenv) R s)
    (h : wpAny (model prog w) A (pyIter it) (fun it' s' => codeAny (model prog w) A (.compLoop (E2 elt x px i1 y py i2 ifs2 scope pos) 0 it' acc cenv) R s') (notedBy (model prog w) A cenv fun x s' => R (.error x) s') s) :
    codeAny (model prog w) A (.compStart (E2 elt x px i1 y py i2 ifs2 scope pos) 0 it acc cenv) R s := codeAny_compStart_list h0 h

/-- the inner clause's loop -/
theorem inner_loop {I D : Addr} {fp : List Addr} {n : Nat} {P : Nat → Value → Prop} {St : Nat → Heap → Prop} {m : Str → Option Value} {ys₀ : List Value} (W : Walks prog w A I fp [I] n P St) (p : Value → Bool) (F : Value → Value → Prop)
    (hy : cenv.kindOf y = some .local) (hp : (cenv.scope.kind == .class || (cenv.scope.kind == .module && cenv.locals != cenv.globals)) = false)
    (hDC : D ≠ cenv.locals) (hDf : D ∉ fp) (hCf : cenv.locals ∉ fp) (hst : St 0 s.heap) (hacc : s.heap.PlainList D ys₀.toArray) (hn : s.heap.Ns cenv.locals m)
    (hsz : ys₀.length + n ≤ sizeLine)
    (htests : ∀ i v s₂ m₂ E', P i v → s₂.heap.Ns cenv.locals m₂ → m₂ y = some v → (∀ z, z ≠ y → m₂ z = m z) → (∀ b o, b ≠ cenv.locals → b ≠ I → b ≠ D → s.heap.get? b = some o → s₂.heap.get? b = some o) →
      wpAny (model prog w) A (forIn ifs2 true fun c r => if r = true then do let ok ← isTrue c cenv (eval c cenv); pure (ForInStep.yield ok) else pure (ForInStep.yield r)) (fun ok s₃ => ok = p v ∧ Keeps s₂ s₃) E' s₂)
    (helt : ∀ i v s₂ m₂ E', P i v → p v = true → s₂.heap.Ns cenv.locals m₂ → m₂ y = some v → (∀ z, z ≠ y → m₂ z = m z) → (∀ b o, b ≠ cenv.locals → b ≠ I → b ≠ D → s.heap.get? b = some o → s₂.heap.get? b = some o) →
      wpAny (model prog w) A (eval elt cenv) (fun u s₃ => F v u ∧ Keeps s₂ s₃) E' s₂)
    (hR : ∀ h' tk m' ws (vs : List Value), h'.Ns cenv.locals m' → (∀ z, z ≠ y → m' z = m z) → h'.PlainList D (ys₀ ++ ws).toArray → vs.length = n → (∀ (j : Nat) v, vs[j]? = some v → P j v) → Paired F (vs.filter p) ws →
      (∀ b o, b ≠ cenv.locals → b ≠ I → b ≠ D → s.heap.get? b = some o → h'.get? b = some o) → R (.ok .next) { s with heap := h', toks := tk }) :
    codeAny (model prog w) A (.compLoop (E2 elt x px i1 y py i2 ifs2 scope pos) 1 (.ref I) (.ref D) cenv) R s := by
  have hIf : I ∈ fp := W.sub I (List.mem_singleton.mpr rfl)
  have hCI : cenv.locals ≠ I := fun e => hCf (e ▸ hIf)
  have hDI : D ≠ I := fun e => hDf (e ▸ hIf)
  refine codeAny_loop rfl (fun k s' => ∃ (h' : Heap) (tk : Nat) (m' : Str → Option Value) (ws vs : List Value), s' = { s with heap := h', toks := tk } ∧ St vs.length h' ∧ h'.PlainList D (ys₀ ++ ws).toArray ∧ h'.Ns cenv.locals m' ∧ (∀ z, z ≠ y → m' z = m z) ∧
      (∀ (j : Nat) v, vs[j]? = some v → P j v) ∧ Paired F (vs.filter p) ws ∧ vs.length ≤ n ∧ k = n + 1 - vs.length ∧ (∀ b o, b ≠ cenv.locals → b ≠ I → b ≠ D → s.heap.get? b = some o → h'.get? b = some o)) ?_ (n + 1)
    ⟨s.heap, s.toks, m, [], [], rfl, hst, by simpa using hacc, hn, fun _ _ => rfl, by simp, .nil, Nat.zero_le _, rfl, fun _ _ _ _ _ e => e⟩
  rintro k s' ⟨H, tk, m', ws, vs, rfl, hst', hacc', hn', hm', hP, hF, hi, rfl, hk⟩
  show wpAny _ A ((compTurn (E2 elt x px i1 y py i2 ifs2 scope pos) 1 (.ref I) (.ref D) cenv).onRaise (fun x => do noteFrame x cenv; theTreesLotGoes x)) _ _ _
  refine wpAny_noted ?_
  rw [turn_inner]
  refine wpAny_bind (wpAny_standAt (wpAny_bind ?_))
  by_cases hlt : vs.length < n
  · refine W.item vs.length _ _ _ hlt hst' fun v h₁ tk₁ hPv hst₁ hk₁ => ?_
    refine wpAny_bind (wpAny_of_eq (a := ()) (by rfl) (wpAny_bind ?_))
    have kI : ∀ b o, b ≠ I → H.get? b = some o → h₁.get? b = some o := fun b o hb e => hk₁ b o (fun hm => hb (List.mem_singleton.mp hm)) e
    refine wpAny_assign_Name (wpAny_storeName_local hy (hn'.at' fun o e => kI _ o hCI e) (fun h₂ hn₂ hs₂ => ?_) hp)
    have up₂ : ∀ b o, b ≠ cenv.locals → b ≠ I → H.get? b = some o → h₂.get? b = some o := fun b o hbC hbI e => hs₂.extBut b o hbC (kI b o hbI e)
    have hst₂ : St (vs.length + 1) h₂ := W.frame _ _ _ hst₁ fun b hb o e => hs₂.extBut b o (fun h => hCf (h ▸ hb)) e
    have hm₂ : ∀ z, z ≠ y → (fun z => if z = y then some v else m' z) z = m z := fun z hz => by simp only [if_neg hz]; exact hm' z hz
    refine wpAny_bind (wpAny_mono (htests vs.length v _ _ _ hPv hn₂ (by simp) hm₂ (fun b o hbC hbI hbD e => up₂ b o hbC hbI (hk b o hbC hbI hbD e))) (fun ok s₃ h₃ => ?_) fun _ _ e => e)
    obtain ⟨rfl, h₃, tk₃, rfl, hk₃⟩ := h₃
    have hst₃ : St (vs.length + 1) h₃ := W.frame _ _ _ hst₂ fun b _ o e => hk₃ b o e
    have hacc₃ : h₃.PlainList D (ys₀ ++ ws).toArray := hacc'.at fun o e => hk₃ _ o (up₂ D o hDC hDI e)
    have hn₃ := hn₂.keeps hk₃
    have hP' : ∀ (j : Nat) u, (vs ++ [v])[j]? = some u → P j u := fun j u hj => by
      rcases Nat.lt_trichotomy j vs.length with h | h | h
      · exact hP j u (by rwa [List.getElem?_append_left h] at hj)
      · subst h; simp at hj; subst hj; exact hPv
      · have hnone : (vs ++ [v])[j]? = none := List.getElem?_eq_none (by rw [List.length_append, List.length_singleton]; omega)
        rw [hnone] at hj; cases hj
    have hl1 : (vs ++ [v]).length = vs.length + 1 := by simp
    cases hpv : p v with
    | false =>
      simp only [Bool.false_eq_true, if_false]
      refine wpAny_pure ⟨rfl, n + 1 - (vs.length + 1), by omega, h₃, tk₃, _, ws, vs ++ [v], rfl, by rw [hl1]; exact hst₃, hacc₃, hn₃, hm₂, hP', ?_, by rw [hl1]; exact hlt, by rw [hl1], fun b o hbC hbI hbD e => hk₃ b o (up₂ b o hbC hbI (hk b o hbC hbI hbD e))⟩
      rw [List.filter_append]; simpa [hpv] using hF
    | true =>
      simp only [if_true]
      refine wpAny_bind (wpAny_bind (wpAny_mono (helt vs.length v _ _ _ hPv hpv hn₃ (by simp) hm₂ (fun b o hbC hbI hbD e => hk₃ b o (up₂ b o hbC hbI (hk b o hbC hbI hbD e)))) (fun u s₄ h₄ => ?_) fun _ _ e => e))
      obtain ⟨hFu, h₄, tk₄, rfl, hk₄⟩ := h₄
      have hlw : ws.length ≤ vs.length := by
        have e1 := hF.length
        have e2 : (vs.filter p).length ≤ vs.length := List.length_filter_le _ _
        omega
      refine wpAny_bind (wpAny_list_append_plain (hsz := by rw [List.size_toArray, List.length_append]; omega) (hacc₃.at fun o e => hk₄ _ o e) fun h₅ hl₅ hs₅ => ?_)
      refine wpAny_pure (wpAny_pure ⟨rfl, n + 1 - (vs.length + 1), by omega, h₅, tk₄, _, ws ++ [u], vs ++ [v], rfl, ?_, ?_, (hn₃.keeps hk₄).sameBut hs₅ (Ne.symm hDC), hm₂, hP', ?_, by rw [hl1]; exact hlt, by rw [hl1],
        fun b o hbC hbI hbD e => hs₅.extBut b o hbD (hk₄ b o (hk₃ b o (up₂ b o hbC hbI (hk b o hbC hbI hbD e))))⟩)
      · rw [hl1]; exact W.frame _ _ h₅ hst₃ fun b hb o e => hs₅.extBut b o (fun h => hDf (h ▸ hb)) (hk₄ b o e)
      · simpa using hl₅
      · rw [List.filter_append]; simpa [hpv] using Paired.snoc hF hFu
  · have hin : vs.length = n := by omega
    refine W.done _ _ _ (hin ▸ hst') fun h₁ tk₁ hk₁ => ?_
    have kI : ∀ b o, b ≠ I → H.get? b = some o → h₁.get? b = some o := fun b o hb e => hk₁ b o (fun hm => hb (List.mem_singleton.mp hm)) e
    exact wpAny_pure (hR h₁ tk₁ m' ws vs (hn'.at' fun o e => kI _ o hCI e) hm' (hacc'.at fun o e => kI _ o hDI e) hin hP hF fun b o hbC hbI hbD e => kI b o hbI (hk b o hbC hbI hbD e))
end

/-- the inner clause's source: what it stands on is its own iterator or stood apart -/
def SrcIn (prog : Program) (w : World) (A : Around) (ok : Addr → Prop) (xv : Value) (s₁ : Shared) (n : Nat) (P : Nat → Value → Prop) : Prop :=
  ∃ (fp : List Addr) (St : Nat → Heap → Prop) (o : Obj), (∀ (Q : Value → Shared → Prop) (E : Value → Shared → Prop), Q (.ref s₁.heap.objs.size) { s₁ with heap := s₁.heap.push o } → wpAny (model prog w) A (pyIter xv) Q E s₁) ∧
    Walks prog w A s₁.heap.objs.size fp [s₁.heap.objs.size] n P St ∧ St 0 (s₁.heap.push o) ∧ ∀ b ∈ fp, b = s₁.heap.objs.size ∨ ok b
section
variable {prog : Program} {w : World} {A : Around} {E : Value → Shared → Prop} {s : Shared} {ok : Addr → Prop}
theorem srcIn_list {l : Addr} {vs : List Value} (hh : A.handled = none) (hl : s.heap.IsList l vs.toArray) (hok : ok l) : SrcIn prog w A ok (.ref l) s vs.length (fun i v => vs[i]? = some v) := by
  have hlt : l < s.heap.objs.size := by obtain ⟨o, ho, _⟩ := hl; exact Heap.lt_size ho
  have W := Walks.list (prog := prog) (w := w) (A := A) hh s.heap.objs.size l (Nat.ne_of_lt hlt) vs.toArray
  have e1 : vs.toArray.size = vs.length := by simp
  have e2 : (fun (i : Nat) (v : Value) => vs.toArray[i]? = some v) = fun i v => vs[i]? = some v := by funext i v; simp
  rw [e1, e2] at W
  refine ⟨_, _, { cls := .type "list_iterator", data := .fields #[.ref l, .int 0 0] }, fun Q E h => wpAny_pyIter_list hl h, W, ⟨⟨_, Heap.get?_push_size _ rfl, rfl, rfl⟩, hl.at fun o e => Heap.get?_push_of_some _ e⟩, fun b hb => ?_⟩
  rcases List.mem_cons.mp hb with rfl | hb
  · exact .inl rfl
  · rw [List.mem_singleton.mp hb]; exact .inr hok
theorem srcIn_range {r : Addr} {a b c : Int} {t u v : Tok} {n : Nat} (hh : A.handled = none) (hr : IsRange s.heap r a b c t u v) (hsmall : Builtin.Range.small a b c = true) (hn : Builtin.Range.rangeSize a b c = n) :
    SrcIn prog w A ok (.ref r) s n (fun i v => i < n ∧ ∃ t, v = .int (a + i * c) t) := by
  have W := walks_strong (Walks.range (prog := prog) (w := w) (A := A) hh s.heap.objs.size a c n)
  refine ⟨_, _, { cls := .type "range_iterator", data := .fields #[rawInt a, rawInt (Builtin.Range.rangeSize a b c), rawInt c] }, fun Q E h => wpAny_pyIter_range hr hsmall h, W, ?_, fun b hb => .inl (List.mem_singleton.mp hb)⟩
  show IsRangeIter _ _ _ _ _; rw [hn]; simpa using Heap.get?_push_size _ rfl
theorem srcIn_str {x : Str} {t : Tok} (hh : A.handled = none) (ha : x.cps.all (· < 128) = true) : SrcIn prog w A ok (.str x t) s x.cps.size (SignAt x) :=
  ⟨_, _, _, fun Q E h => wpAny_pyIter_ascii ha h, Walks.strAscii hh _ x t, ⟨_, Heap.get?_push_size _ rfl, rfl, rfl⟩, fun b hb => .inl (List.mem_singleton.mp hb)⟩
end
/-- what is to be shown where the inner source is at hand -/
def InnerAt (prog : Program) (w : World) (A : Around) (cenvOf : Addr → Env) (x y : Str) (ifs2 : List Expr) (elt : Expr) (h₀ : Heap) (L : Addr) (m : Str → Option Value) (news : List (Addr × Obj)) (FF : Value → List Value → Prop) (v : Value) (C : Addr) (s₃ : Shared) (xv2 : Value) (s₄ : Shared) : Prop :=
  Keeps s₃ s₄ ∧ ∃ (n2 : Nat) (P2 : Nat → Value → Prop) (p2 : Value → Bool) (F2 : Value → Value → Prop),
    SrcIn prog w A (fun b => h₀.get? b ≠ none ∨ (∃ q ∈ news, b = q.1) ∨ s₃.heap.get? b = none) xv2 s₄ n2 P2 ∧ n2 ≤ 1000 ∧
    (∀ (i : Nat) (u : Value) (oC : Obj) (m₂ : Str → Option Value) (s₅ : Shared) (E' : Value → Shared → Prop), P2 i u → LCg.NsObj oC m₂ → m₂ x = some v → m₂ y = some u → Fr h₀ L s₅.heap m → News h₀ L s₅.heap ((C, oC) :: news) →
      wpAny (model prog w) A (forIn ifs2 true fun c r => if r = true then do let ok ← isTrue c (cenvOf C) (eval c (cenvOf C)); pure (ForInStep.yield ok) else pure (ForInStep.yield r)) (fun ok s₆ => ok = p2 u ∧ Keeps s₅ s₆) E' s₅) ∧
    (∀ (i : Nat) (u : Value) (oC : Obj) (m₂ : Str → Option Value) (s₅ : Shared) (E' : Value → Shared → Prop), P2 i u → p2 u = true → LCg.NsObj oC m₂ → m₂ x = some v → m₂ y = some u → Fr h₀ L s₅.heap m → News h₀ L s₅.heap ((C, oC) :: news) →
      wpAny (model prog w) A (eval elt (cenvOf C)) (fun z s₆ => F2 u z ∧ Keeps s₅ s₆) E' s₅) ∧
    (∀ (vs2 ws : List Value), vs2.length = n2 → (∀ (j : Nat) (u : Value), vs2[j]? = some u → P2 j u) → Paired F2 (vs2.filter p2) ws → FF v ws)
def Comp2At (prog : Program) (w : World) (A : Around) (cenvOf : Addr → Env) (x y : Str) (i2 : Expr) (ifs2 : List Expr) (elt : Expr) (Q : Value → Shared → Prop) (xv : Value) (s₁ : Shared) : Prop :=
  ∃ (n : Nat) (P : Nat → Value → Prop) (h₀ : Heap) (L : Addr) (m : Str → Option Value) (news : List (Addr × Obj)) (FF : Value → List Value → Prop),
    Src prog w A xv s₁ n P ∧ n ≤ 1000 ∧ Fr h₀ L s₁.heap m ∧ News h₀ L s₁.heap news ∧
    (∀ (i : Nat) (v : Value) (C : Addr) (oC : Obj) (m₂ : Str → Option Value) (s₃ : Shared) (E' : Value → Shared → Prop), P i v → LCg.NsObj oC m₂ → m₂ x = some v → Fr h₀ L s₃.heap m → News h₀ L s₃.heap ((C, oC) :: news) → (∀ q ∈ news, q.1 < C) →
      wpAny (model prog w) A (eval i2 (cenvOf C)) (InnerAt prog w A cenvOf x y ifs2 elt h₀ L m news FF v C s₃) E' s₃) ∧
    (∀ (D : Addr) (h' : Heap) (tk : Nat) (vs : List Value) (wss : List (List Value)), vs.length = n → (∀ (j : Nat) (v : Value), vs[j]? = some v → P j v) → Fr h₀ L h' m → News h₀ L h' news → h'.PlainList D wss.flatten.toArray → s₁.heap.get? D = none → s₁.heap.StaysIn h' → Paired FF vs wss → Q (.ref D) { s₁ with heap := h', toks := tk })

theorem paired_lens {FF : Value → List Value → Prop} {N : Nat} : ∀ {vs : List Value} {wss : List (List Value)}, Paired FF vs wss → (∀ ws ∈ wss, ws.length ≤ N) → wss.flatten.length ≤ vs.length * N
  | _, _, .nil, _ => by simp
  | _, _, .cons (l₁ := l₁) (l₂ := l₂) (b := b) _ h, hl => by
    have ih := paired_lens h fun ws hw => hl ws (.tail _ hw)
    have h1 := hl _ (.head _)
    rw [List.flatten_cons, List.length_append, List.length_cons, Nat.succ_mul]
    omega
section
variable {prog : Program} {w : World} {A : Around} {E : Value → Shared → Prop} {s : Shared} {elt i1 i2 : Expr} {x y : Str} {px py : Pos} {ifs2 : List Expr} {scope : Scope} {pos : Pos} {cenvOf : Addr → Env} {R : Result → Shared → Prop}
theorem outer_loop {I D C : Addr} {fp : List Addr} {n : Nat} {P : Nat → Value → Prop} {St : Nat → Heap → Prop} {mc : Str → Option Value} {h₀ : Heap} {L : Addr} {m : Str → Option Value} {news : List (Addr × Obj)} {FF : Value → List Value → Prop}
    (W : Walks prog w A I fp [I] n P St) (hcenv : (cenvOf C).locals = C) (hx : (cenvOf C).kindOf x = some .local) (hy : (cenvOf C).kindOf y = some .local) (hxy : x ≠ y) (hp : ((cenvOf C).scope.kind == .class || ((cenvOf C).scope.kind == .module && (cenvOf C).locals != (cenvOf C).globals)) = false)
    (hs2 : ∀ z, foldedSetIterable i2 (cenvOf C) z = pure z)
    (hDC : D ≠ C) (hDf : D ∉ fp) (hCf : C ∉ fp) (hst : St 0 s.heap) (hacc : s.heap.PlainList D #[]) (hn : s.heap.Ns C mc) (hsz : n ≤ 1000)
    (F : Fr h₀ L s.heap m) (N : News h₀ L s.heap news) (hC0 : h₀.get? C = none) (hCL : C ≠ L) (hCn : ∀ q ∈ news, q.1 < C) (hD0 : h₀.get? D = none) (hDL : D ≠ L) (hDn : ∀ q ∈ news, q.1 ≠ D) (hI0 : h₀.get? I = none) (hIL : I ≠ L) (hIn : ∀ q ∈ news, q.1 ≠ I)
    (inner : ∀ (i : Nat) (v : Value) (C : Addr) (oC : Obj) (m₂ : Str → Option Value) (s₃ : Shared) (E' : Value → Shared → Prop), P i v → LCg.NsObj oC m₂ → m₂ x = some v → Fr h₀ L s₃.heap m → News h₀ L s₃.heap ((C, oC) :: news) → (∀ q ∈ news, q.1 < C) →
      wpAny (model prog w) A (eval i2 (cenvOf C)) (InnerAt prog w A cenvOf x y ifs2 elt h₀ L m news FF v C s₃) E' s₃)
    (hR : ∀ h' tk m' (vs : List Value) (wss : List (List Value)), h'.Ns C m' → h'.PlainList D wss.flatten.toArray → vs.length = n → (∀ (j : Nat) v, vs[j]? = some v → P j v) → Paired FF vs wss →
      (∀ b o, b ≠ C → b ≠ I → b ≠ D → s.heap.get? b = some o → h'.get? b = some o) → R (.ok .next) { s with heap := h', toks := tk }) :
    codeAny (model prog w) A (.compLoop (E2 elt x px i1 y py i2 ifs2 scope pos) 0 (.ref I) (.ref D) (cenvOf C)) R s := by
  have hIf : I ∈ fp := W.sub I (List.mem_singleton.mpr rfl)
  have hCI : C ≠ I := fun e => hCf (e ▸ hIf)
  have hDI : D ≠ I := fun e => hDf (e ▸ hIf)
  have frOf : ∀ h : Heap, (∀ b o, b ≠ C → b ≠ I → b ≠ D → s.heap.get? b = some o → h.get? b = some o) → Fr h₀ L h m ∧ News h₀ L h news := by
    intro h k
    obtain ⟨oL, es, ep, hL, r⟩ := F.ns
    refine ⟨⟨⟨oL, es, ep, k L oL (Ne.symm hCL) (Ne.symm hIL) (Ne.symm hDL) hL, r⟩, fun b o e => k b o ?_ ?_ ?_ (F.keep b o e), F.above⟩, fun q hq => ⟨k _ _ (Nat.ne_of_lt (hCn q hq)) (hIn q hq) (hDn q hq) (N q hq).1, (N q hq).2⟩⟩
    · rintro rfl; rw [hC0] at e; cases e
    · rintro rfl; rw [hI0] at e; cases e
    · rintro rfl; rw [hD0] at e; cases e
  have newsC : ∀ (h : Heap) (oC : Obj), News h₀ L h news → h.get? C = some oC → News h₀ L h ((C, oC) :: news) := fun h oC Nn e q hq => by
    rcases List.mem_cons.mp hq with rfl | hq
    · exact ⟨e, hCL, hC0⟩
    · exact Nn q hq
  refine codeAny_loop rfl (fun k s' => ∃ (h' : Heap) (tk : Nat) (m' : Str → Option Value) (wss : List (List Value)) (vs : List Value), s' = { s with heap := h', toks := tk } ∧ St vs.length h' ∧ h'.PlainList D wss.flatten.toArray ∧ h'.Ns C m' ∧
      (∀ (j : Nat) v, vs[j]? = some v → P j v) ∧ Paired FF vs wss ∧ (∀ ws ∈ wss, ws.length ≤ 1000) ∧ vs.length ≤ n ∧ k = n + 1 - vs.length ∧ (∀ b o, b ≠ C → b ≠ I → b ≠ D → s.heap.get? b = some o → h'.get? b = some o)) ?_ (n + 1)
    ⟨s.heap, s.toks, mc, [], [], rfl, hst, by simpa using hacc, hn, by simp, .nil, by simp, Nat.zero_le _, rfl, fun _ _ _ _ _ e => e⟩
  rintro k s' ⟨H, tk, m', wss, vs, rfl, hst', hacc', hn', hP, hF, hW, hi, rfl, hk⟩
  show wpAny _ A ((compTurn (E2 elt x px i1 y py i2 ifs2 scope pos) 0 (.ref I) (.ref D) (cenvOf C)).onRaise (fun x => do noteFrame x (cenvOf C); theTreesLotGoes x)) _ _ _
  refine wpAny_noted ?_
  rw [turn_outer]
  refine wpAny_bind (wpAny_standAt (wpAny_bind ?_))
  by_cases hlt : vs.length < n
  · refine W.item vs.length _ _ _ hlt hst' fun v h₁ tk₁ hPv hst₁ hk₁ => ?_
    refine wpAny_bind (wpAny_of_eq (a := ()) (by rfl) (wpAny_bind ?_))
    have kI : ∀ b o, b ≠ I → H.get? b = some o → h₁.get? b = some o := fun b o hb e => hk₁ b o (fun hm => hb (List.mem_singleton.mp hm)) e
    refine wpAny_assign_Name (wpAny_storeName_local (m := m') hx (hcenv.symm ▸ hn'.at' fun o e => kI _ o hCI e) (fun h₂ hn₂ hs₂ => ?_) hp)
    rw [hcenv] at hn₂ hs₂
    have up₂ : ∀ b o, b ≠ C → b ≠ I → H.get? b = some o → h₂.get? b = some o := fun b o hbC hbI e => hs₂.extBut b o hbC (kI b o hbI e)
    have hst₂ : St (vs.length + 1) h₂ := W.frame _ _ _ hst₁ fun b hb o e => hs₂.extBut b o (fun h => hCf (h ▸ hb)) e
    have k2 : ∀ b o, b ≠ C → b ≠ I → b ≠ D → s.heap.get? b = some o → h₂.get? b = some o := fun b o hbC hbI hbD e => up₂ b o hbC hbI (hk b o hbC hbI hbD e)
    obtain ⟨oC, hoC, hns⟩ := LCg.ns_obj hn₂
    obtain ⟨F2, N2⟩ := frOf h₂ k2
    refine wpAny_bind (wpAny_mono (inner vs.length v C oC _ { s with heap := h₂, toks := _ } _ hPv hns (by simp) F2 (newsC h₂ oC N2 hoC) hCn) (fun xv2 s₄ hin => ?_) fun _ _ e => e)
    obtain ⟨⟨h₄, tk₄, rfl, hk₄⟩, n2, P2, p2, F2', ⟨fp2, St2, o2, hiter, W2, hst2, hfp2⟩, hn2, ht2, he2, hfin2⟩ := hin
    refine wpAny_bind (wpAny_standAt (wpAny_bind ?_))
    rw [hs2]
    refine wpAny_pure (wpAny_bind (wpAny_holding (hiter _ _ ?_)))
    have hDlt : D < h₄.objs.size := by
      obtain ⟨c, e⟩ := hacc'
      exact Heap.lt_size (hk₄ _ _ (up₂ D _ hDC hDI e))
    have hClt : C < h₄.objs.size := Heap.lt_size (hk₄ _ _ hoC)
    have hD2 : D ∉ fp2 := fun hm => by
      rcases hfp2 D hm with h | h | ⟨q, hq, h⟩ | h
      · exact Nat.ne_of_lt hDlt h
      · exact h hD0
      · exact hDn q hq h.symm
      · obtain ⟨c, e⟩ := hacc'
        have := up₂ D _ hDC hDI e
        rw [show h₂.get? D = none from h] at this; cases this
    have hC2 : C ∉ fp2 := fun hm => by
      rcases hfp2 C hm with h | h | ⟨q, hq, h⟩ | h
      · exact Nat.ne_of_lt hClt h
      · exact h hC0
      · exact Nat.ne_of_lt (hCn q hq) h.symm
      · rw [show h₂.get? C = none from h] at hoC; cases hoC
    have k4 : ∀ b o, h₂.get? b = some o → (h₄.push o2).get? b = some o := fun b o e => Heap.get?_push_of_some _ (hk₄ b o e)
    have hI2 : ∀ b o, h₂.get? b = some o → b ≠ h₄.objs.size := fun b o e => Nat.ne_of_lt (Heap.lt_size (hk₄ b o e))
    have hacc4 : (h₄.push o2).PlainList D wss.flatten.toArray := hacc'.at fun o e => k4 _ o (up₂ D o hDC hDI e)
    have hn4 := hn₂.keeps k4
    have hflat : wss.flatten.length ≤ 1000000 := by
      have := paired_lens hF hW
      have h2 : vs.length * 1000 ≤ 1000 * 1000 := Nat.mul_le_mul_right _ (by omega)
      omega
    have key : ∀ R' : Result → Shared → Prop, (∀ (h6 : Heap) (tk6 : Nat) (m6 : Str → Option Value) (ws vs2 : List Value), h6.Ns C m6 → h6.PlainList D (wss.flatten ++ ws).toArray → vs2.length = n2 → (∀ (j : Nat) (u : Value), vs2[j]? = some u → P2 j u) → Paired F2' (vs2.filter p2) ws →
        (∀ b o, b ≠ C → b ≠ h₄.objs.size → b ≠ D → (h₄.push o2).get? b = some o → h6.get? b = some o) → R' (.ok .next) { s with heap := h6, toks := tk6 }) →
        codeAny (model prog w) A (.compLoop (E2 elt x px i1 y py i2 ifs2 scope pos) 1 (.ref h₄.objs.size) (.ref D) (cenvOf C)) R' { s with heap := h₄.push o2, toks := tk₄ } := by
      intro R' hfin
      refine inner_loop (s := { s with heap := h₄.push o2, toks := tk₄ }) (cenv := cenvOf C) W2 p2 F2' hy hp (by rw [hcenv]; exact hDC) hD2 (by rw [hcenv]; exact hC2) hst2 hacc4 (by rw [hcenv]; exact hn4) (by rw [sizeLine_eq]; omega) ?_ ?_ ?_
      · intro i u s₅ m₅ E' hPu hn5 hm5 hoth hk5
        rw [hcenv] at hn5 hk5
        obtain ⟨oC5, hoC5, hns5⟩ := LCg.ns_obj hn5
        obtain ⟨F5, N5⟩ := frOf s₅.heap fun b o hbC hbI hbD e => hk5 b o hbC (hI2 b o (k2 b o hbC hbI hbD e)) hbD (k4 b o (k2 b o hbC hbI hbD e))
        exact ht2 i u oC5 m₅ s₅ E' hPu hns5 (by rw [hoth x hxy]; simp) hm5 F5 (newsC _ _ N5 hoC5)
      · intro i u s₅ m₅ E' hPu hpu hn5 hm5 hoth hk5
        rw [hcenv] at hn5 hk5
        obtain ⟨oC5, hoC5, hns5⟩ := LCg.ns_obj hn5
        obtain ⟨F5, N5⟩ := frOf s₅.heap fun b o hbC hbI hbD e => hk5 b o hbC (hI2 b o (k2 b o hbC hbI hbD e)) hbD (k4 b o (k2 b o hbC hbI hbD e))
        exact he2 i u oC5 m₅ s₅ E' hPu hpu hns5 (by rw [hoth x hxy]; simp) hm5 F5 (newsC _ _ N5 hoC5)
      · intro h6 tk6 m6 ws vs2 hn6 _ hacc6 hlen2 hP2 hF2 hk6
        rw [hcenv] at hn6 hk6
        exact hfin h6 tk6 m6 ws vs2 hn6 hacc6 hlen2 hP2 hF2 hk6
    refine wpAny_bind (wpAny_runOwn ?_)
    show codeAny (model prog w) A _ _ _
    refine (fun fin => start_inner (key _ fin) (W2.self 0 _ _ _ hst2 (key _ fin))) ?_
    intro h6 tk6 m6 ws vs2 hn6 hacc6 hlen2 hP2 hF2 hk6
    have hPv' : ∀ (j : Nat) u, (vs ++ [v])[j]? = some u → P j u := fun j u hj => by
      rcases Nat.lt_trichotomy j vs.length with h | h | h
      · exact hP j u (by rwa [List.getElem?_append_left h] at hj)
      · subst h; simp at hj; subst hj; exact hPv
      · have hnone : (vs ++ [v])[j]? = none := List.getElem?_eq_none (by rw [List.length_append, List.length_singleton]; omega)
        rw [hnone] at hj; cases hj
    have hl1 : (vs ++ [v]).length = vs.length + 1 := by simp
    have hwl : ws.length ≤ 1000 := by
      have e1 := hF2.length
      have e2 : (vs2.filter p2).length ≤ vs2.length := List.length_filter_le _ _
      omega
    refine wpAny_pure ⟨rfl, n + 1 - (vs.length + 1), by omega, h6, tk6, m6, wss ++ [ws], vs ++ [v], rfl, ?_, ?_, hn6, hPv', Paired.snoc hF (hfin2 vs2 ws hlen2 hP2 hF2), ?_, by rw [hl1]; exact hlt, by rw [hl1], fun b o hbC hbI hbD e => ?_⟩
    · rw [hl1]
      exact W.frame _ _ h6 hst₂ fun b hb o e => hk6 b o (fun h => hCf (h ▸ hb)) (hI2 b o e) (fun h => hDf (h ▸ hb)) (k4 b o e)
    · simpa using hacc6
    · intro z hz
      rcases List.mem_append.mp hz with h | h
      · exact hW z h
      · rw [List.mem_singleton.mp h]; exact hwl
    · exact hk6 b o hbC (hI2 b o (k2 b o hbC hbI hbD e)) hbD (k4 b o (k2 b o hbC hbI hbD e))
  · have hin : vs.length = n := by omega
    refine W.done _ _ _ (hin ▸ hst') fun h₁ tk₁ hk₁ => ?_
    have kI : ∀ b o, b ≠ I → H.get? b = some o → h₁.get? b = some o := fun b o hb e => hk₁ b o (fun hm => hb (List.mem_singleton.mp hm)) e
    exact wpAny_pure (hR h₁ tk₁ m' vs wss (hn'.at' fun o e => kI _ o hCI e) (hacc'.at fun o e => kI _ o hDI e) hin hP hF fun b o hbC hbI hbD e => kI b o hbI (hk b o hbC hbI hbD e))
end

section
variable {prog : Program} {w : World} {A : Around} {E : Value → Shared → Prop} {env : Env} {s : Shared}
theorem comp2_at {elt i1 i2 : Expr} {x y : Str} {px py : Pos} {ifs2 : List Expr} {scope : Scope} {cl : List (Str × Addr)} {pos : Pos} {Q : Value → Shared → Prop}
    (hclos : closureFor scope env = pure cl) (hcell : ∀ z ∈ scope.names, z.2 ≠ .cell) (hkind : scope.kind = .function)
    (hnames : ∀ z ∈ scope.names, z.2 = .local → scope.names.lookup z.1 = some .local) (hx : scope.names.lookup x = some .local) (hy : scope.names.lookup y = some .local) (hxy : x ≠ y)
    (h : wpAny (model prog w) A (eval i1 env) (Comp2At prog w A (fun C => compEnvC scope cl C env) x y i2 ifs2 elt Q) E s)
    (hs : ∀ z, foldedSetIterable i1 env z = pure z := by intro _; rfl) (hs2 : ∀ C z, foldedSetIterable i2 (compEnvC scope cl C env) z = pure z := by intro _ _; rfl) :
    wpAny (model prog w) A (eval (.ListComp elt [⟨.Name x px, i1, [], 0⟩, ⟨.Name y py, i2, ifs2, 0⟩] scope pos) env) Q E s := by
  rw [eval_ListComp]
  refine wpAny_comprehension_free (use := none) rfl hs hclos hkind hnames (wpAny_mono h (fun xv s₁ h₁ => ?_) fun _ _ e => e)
  obtain ⟨n, P, h₀, L, m, news, FF, ⟨fp, St, oI, hiter, W, hst, hfp⟩, hsz, F, N, hin, hd⟩ := h₁
  refine hiter _ _ ?_
  generalize hH : s₁.heap.push oI = H1 at hst ⊢
  have old1 : ∀ b o, s₁.heap.get? b = some o → H1.get? b = some o := fun b o e => hH ▸ Heap.get?_push_of_some _ e
  have hsz1 : H1.objs.size = s₁.heap.objs.size + 1 := by rw [← hH, Heap.size_push]
  refine wpAny_newObj_type (wpAny_newFunctionEnv hcell (by intro z hz; simp at hz) (fun h₁ hns₁ hsb₁ => ?_) hkind)
  dsimp only at hns₁ hsb₁ ⊢
  generalize hH2 : H1.push { cls := .type "list", dict := none, data := .seq ([] : List Value).toArray } = H2 at hns₁ hsb₁ ⊢
  have hC : H2.objs.size = H1.objs.size + 1 := by rw [← hH2, Heap.size_push]
  have hDC : H1.objs.size ≠ H2.objs.size := by rw [hC]; exact Nat.ne_of_lt (Nat.lt_succ_self _)
  have below : ∀ b, b < H1.objs.size → b ≠ H2.objs.size ∧ b ≠ H1.objs.size := fun b hb => ⟨by rw [hC]; exact Nat.ne_of_lt (Nat.lt_succ_of_lt hb), Nat.ne_of_lt hb⟩
  have hfp' : ∀ b ∈ fp, b < H1.objs.size := fun b hb => by rw [hsz1]; exact hfp b hb
  have hDf : H1.objs.size ∉ fp := fun hm => Nat.lt_irrefl _ (hfp' _ hm)
  have hCf : H2.objs.size ∉ fp := fun hm => by have := hfp' _ hm; rw [hC] at this; exact Nat.lt_irrefl _ (Nat.lt_of_succ_lt this)
  have old : ∀ b o, H1.get? b = some o → h₁.get? b = some o := fun b o e => hsb₁.extBut b o (below b (Heap.lt_size e)).1 (Heap.get?_push_of_some _ (hH2 ▸ Heap.get?_push_of_some _ e))
  have hacc : h₁.PlainList H1.objs.size #[] := ⟨_, hsb₁.extBut _ _ hDC (Heap.get?_push_of_some _ (hH2 ▸ Heap.get?_push_size _ rfl))⟩
  have hst₁ : St 0 h₁ := W.frame _ _ _ hst fun b _ o e => old b o e
  have fresh1 : ∀ a, s₁.heap.objs.size ≤ a → s₁.heap.get? a = none := fun a ha => Heap.get?_none_of_le ha
  have fresh0 : ∀ a, s₁.heap.objs.size ≤ a → h₀.get? a = none := fun a ha => by
    cases e : h₀.get? a with
    | none => rfl
    | some o' => have := F.keep a o' e; rw [fresh1 a ha] at this; cases this
  have neL : ∀ a, s₁.heap.objs.size ≤ a → a ≠ L := fun a ha e => by
    have := F.ns.lt
    rw [← e] at this
    exact absurd (Nat.lt_of_lt_of_le this ha) (Nat.lt_irrefl _)
  have ltN : ∀ q ∈ news, q.1 < s₁.heap.objs.size := fun q hq => Heap.lt_size (N q hq).1
  have hIs : s₁.heap.objs.size ≤ s₁.heap.objs.size := Nat.le_refl _
  have hDs : s₁.heap.objs.size ≤ H1.objs.size := by rw [hsz1]; exact Nat.le_succ _
  have hCs : s₁.heap.objs.size ≤ H2.objs.size := by rw [hC, hsz1]; exact Nat.le_succ_of_le (Nat.le_succ _)
  have k1 : ∀ b o, s₁.heap.get? b = some o → h₁.get? b = some o := fun b o e => old b o (old1 b o e)
  have fin : ∀ (tk0 : Nat), codeAny (model prog w) A (.compLoop (E2 elt x px i1 y py i2 ifs2 scope pos) 0 (.ref s₁.heap.objs.size) (.ref H1.objs.size) (compEnvC scope cl H2.objs.size env))
      (compPost (model prog w) A E none Q (.ref H1.objs.size) H2.objs.size) { s₁ with heap := h₁, toks := tk0 } := by
    intro tk0
    refine outer_loop (s := { s₁ with heap := h₁, toks := tk0 }) (cenvOf := fun C => compEnvC scope cl C env) (C := H2.objs.size) W rfl (lookup_relabel_local hx) (lookup_relabel_local hy) hxy (by simp [compEnvC, relabel, hkind]) (hs2 _) hDC hDf hCf hst₁ hacc hns₁ hsz
      (F.keeps k1) (fun q hq => ⟨k1 _ _ (N q hq).1, (N q hq).2⟩) (fresh0 _ hCs) (neL _ hCs) (fun q hq => Nat.lt_of_lt_of_le (ltN q hq) hCs) (fresh0 _ hDs) (neL _ hDs) (fun q hq => Nat.ne_of_lt (Nat.lt_of_lt_of_le (ltN q hq) hDs)) (fresh0 _ hIs) (neL _ hIs) (fun q hq => Nat.ne_of_lt (ltN q hq)) hin ?_
    intro h' tk m' vs wss hn' hpl hlen hP hF hk
    refine ⟨m', hn', fun h'' hs'' => ?_⟩
    have k2 : ∀ b o, s₁.heap.get? b = some o → h''.get? b = some o := fun b o e => by
      have hb := Heap.lt_size e
      exact hs''.extBut b o (Nat.ne_of_lt (Nat.lt_of_lt_of_le hb hCs)) (hk b o (Nat.ne_of_lt (Nat.lt_of_lt_of_le hb hCs)) (Nat.ne_of_lt hb) (Nat.ne_of_lt (Nat.lt_of_lt_of_le hb hDs)) (k1 b o e))
    exact hd H1.objs.size h'' tk vs wss hlen hP (F.keeps k2) (fun q hq => ⟨k2 _ _ (N q hq).1, (N q hq).2⟩) (hpl.extBut hs''.extBut hDC) (fresh1 _ hDs) k2 hF
  exact start_outer (cenv := compEnvC scope cl H2.objs.size env) (fin _) (W.self 0 _ _ _ hst₁ (fin _))
end
end Mine
end
section
open PySem PySem.W PyProof.Rows PySem.Calls
set_option maxRecDepth 100000
set_option maxHeartbeats 0
namespace Mine
abbrev cellObj (v : Option Value) : Obj := { cls := .type "cell", data := .cell v }
section
variable {M : Model} {A : Around} {E : Value → Shared → Prop} {s : Shared}
theorem newEnv_cell {scope : Scope} {globals : Addr} {cl : List (Str × Addr)} {qual : Str} {env : Env} {x : Str} {Q : Env → Shared → Prop} (hc : ∀ n, cellsFrom n scope.names cl = (x, n) :: cl) (hp : ∀ h, pushCells h scope.names = h.push (cellObj none))
    (h : Q { scope, locals := s.heap.objs.size, globals, cells := (x, s.heap.objs.size + 1) :: cl, qual, func := none, code := env.code, frame := env.frame, builtins := env.builtins } { s with heap := (s.heap.push { cls := .type "dict", data := .dict #[] }).push (cellObj none) }) :
    wpAny M A (newFunctionEnv scope globals cl [] qual none .none (some env)) Q E s := by
  simp only [newFunctionEnv, Option.isSome_some, if_true]
  refine wpAny_bind (wpAny_alloc ?_)
  refine wpAny_bind (wpAny_layCells _ (fun name kind cells => by cases hkc : kind == NameKind.cell <;> simp [hkc]) _ _ _ _ ?_)
  rw [hc, hp]
  refine wpAny_bind (wpAny_pure (wpAny_pure ?_))
  rw [Heap.size_push]
  exact h
end

section
variable {prog : Program} {w : World} {A : Around} {E : Value → Shared → Prop} {env : Env} {s : Shared}
/-- behind the loop: the list is stored under its name, then the block's own names go -/
theorem post_use {z : Str} {pz : Pos} {D C L : Addr} {h₀ h' : Heap} {m m' : Str → Option Value} {news : List (Addr × Obj)} {ys : Array Value} {tk : Nat} {Q : Flow → Shared → Prop}
    (hz : env.kindOf z = some .local) (hp : (env.scope.kind == .class || (env.scope.kind == .module && env.locals != env.globals)) = false) (hL : env.locals = L)
    (F : Fr h₀ L h' m) (N : News h₀ L h' news) (hn : h'.Ns C m') (hCL : C ≠ L) (hDL : D ≠ L) (hDC : D ≠ C) (hpl : h'.PlainList D ys) (hC0 : h₀.get? C = none) (hCn : ∀ q ∈ news, q.1 ≠ C)
    (k : ∀ h'' tk'', Fr h₀ L h'' (fun y => if y = z then some (.ref D) else m y) → News h₀ L h'' news → h''.PlainList D ys → (∀ b o, b ≠ L → b ≠ C → h'.get? b = some o → h''.get? b = some o) → Q .next { s with heap := h'', toks := tk'' }) :
    compPost (model prog w) A E (some (assign (.Name z pz) env)) (fun _ s' => Q .next s') (.ref D) C (.ok .next) { s with heap := h', toks := tk } := by
  show wpAny _ A (assign (.Name z pz) env (.ref D)) _ _ _
  refine wpAny_assign_Name (wpAny_storeName_local (m := m) hz (hL.symm ▸ F.ns) (fun h₂ hn₂ hs₂ => ?_) hp)
  rw [hL] at hn₂ hs₂
  refine ⟨m', hn.at' fun o e => hs₂.extBut _ o hCL e, fun h'' hs'' => ?_⟩
  have k2 : ∀ b o, b ≠ L → b ≠ C → h'.get? b = some o → h''.get? b = some o := fun b o h1 h2 e => hs''.extBut b o h2 (hs₂.extBut b o h1 e)
  refine k h'' _ ⟨hn₂.at' fun o e => hs''.extBut _ o (Ne.symm hCL) e, fun b o e => k2 b o ?_ ?_ (F.keep b o e), F.above⟩ (fun q hq => ⟨k2 _ _ (N q hq).2.1 (hCn q hq) (N q hq).1, (N q hq).2⟩) (hpl.at fun o e => k2 _ o hDL hDC e) k2
  · exact Nat.ne_of_lt (Nat.lt_of_lt_of_le (Heap.lt_size e) F.above)
  · rintro rfl; rw [hC0] at e; cases e
def UseEnd (Q : Flow → Shared → Prop) (z : Str) (h₀ : Heap) (L : Addr) (m : Str → Option Value) (news : List (Addr × Obj)) (s₁ : Shared) (Pr : List Value → Prop) : Prop :=
  ∀ (D : Addr) (h' : Heap) (tk : Nat) (ys : List Value), Pr ys → Fr h₀ L h' (fun y => if y = z then some (.ref D) else m y) → News h₀ L h' news → h'.PlainList D ys.toArray → s₁.heap.get? D = none → (∀ b o, b ≠ L → s₁.heap.get? b = some o → h'.get? b = some o) → Q .next { s₁ with heap := h', toks := tk }
/-- the turns of a comprehension of one clause -/
def CompTurns (prog : Program) (w : World) (A : Around) (env : Env) (scope : Scope) (cl : List (Str × Addr)) (x : Str) (ifs : List Expr) (elt : Expr) (h₀ : Heap) (L : Addr) (m : Str → Option Value) (news : List (Addr × Obj)) (P : Nat → Value → Prop) (p : Value → Bool) (FF : Value → Value → Prop) : Prop :=
    (∀ (i : Nat) (v : Value) (C : Addr) (oC : Obj) (m₂ : Str → Option Value) (s₃ : Shared) (E' : Value → Shared → Prop), P i v → LCg.NsObj oC m₂ → m₂ x = some v → Fr h₀ L s₃.heap m → News h₀ L s₃.heap ((C, oC) :: news) → (∀ q ∈ news, q.1 < C) →
      wpAny (model prog w) A (forIn ifs true fun c r => if r = true then do let ok ← isTrue c (compEnvC scope cl C env) (eval c (compEnvC scope cl C env)); pure (ForInStep.yield ok) else pure (ForInStep.yield r)) (fun ok s₄ => ok = p v ∧ Keeps s₃ s₄) E' s₃) ∧
    (∀ (i : Nat) (v : Value) (C : Addr) (oC : Obj) (m₂ : Str → Option Value) (s₃ : Shared) (E' : Value → Shared → Prop), P i v → p v = true → LCg.NsObj oC m₂ → m₂ x = some v → Fr h₀ L s₃.heap m → News h₀ L s₃.heap ((C, oC) :: news) → (∀ q ∈ news, q.1 < C) →
      wpAny (model prog w) A (eval elt (compEnvC scope cl C env)) (fun y s₄ => FF v y ∧ Keeps s₃ s₄) E' s₃)
/-- what is to be shown of a comprehension that a statement stores -/
def UseAt (prog : Program) (w : World) (A : Around) (env : Env) (scope : Scope) (cl : List (Str × Addr)) (x : Str) (ifs : List Expr) (elt : Expr) (z : Str) (Q : Flow → Shared → Prop) (xv : Value) (s₁ : Shared) : Prop :=
  ∃ (n : Nat) (P : Nat → Value → Prop) (h₀ : Heap) (L : Addr) (m : Str → Option Value) (news : List (Addr × Obj)) (p : Value → Bool) (FF : Value → Value → Prop),
    Src prog w A xv s₁ n P ∧ n ≤ sizeLine ∧ env.locals = L ∧ Fr h₀ L s₁.heap m ∧ News h₀ L s₁.heap news ∧ CompTurns prog w A env scope cl x ifs elt h₀ L m news P p FF ∧
    UseEnd Q z h₀ L m news s₁ (fun ys => ∃ vs : List Value, vs.length = n ∧ (∀ (j : Nat) (v : Value), vs[j]? = some v → P j v) ∧ Paired FF (vs.filter p) ys)
theorem comp_use {elt iter : Expr} {x z : Str} {px pz : Pos} {ifs : List Expr} {scope : Scope} {cl : List (Str × Addr)} {pos spos : Pos} {Q : Flow → Shared → Prop}
    (hsw : swapsWith (.ListComp elt [⟨.Name x px, iter, ifs, 0⟩] scope pos) (some (.Name z pz)) spos.line env = pure true)
    (hclos : closureFor scope env = pure cl) (hcell : ∀ y ∈ scope.names, y.2 ≠ .cell) (hkind : scope.kind = .function)
    (hnames : ∀ y ∈ scope.names, y.2 = .local → scope.names.lookup y.1 = some .local) (hx : scope.names.lookup x = some .local)
    (hz : env.kindOf z = some .local) (hp : (env.scope.kind == .class || (env.scope.kind == .module && env.locals != env.globals)) = false)
    (h : wpAny (model prog w) A (eval iter env) (UseAt prog w A env scope cl x ifs elt z Q) E s)
    (hs : ∀ x, foldedSetIterable iter env x = pure x := by intro _; rfl) :
    wpAny (model prog w) A (exec (.Assign [.Name z pz] (.ListComp elt [⟨.Name x px, iter, ifs, 0⟩] scope pos) spos) env) Q E s := by
  rw [exec_Assign_Name_used _ _ _ _ hsw]
  refine wpAny_bind (wpAny_standAt (wpAny_bind ?_))
  show wpAny _ A (do let _ ← comprehension (.ListComp elt [⟨.Name x px, iter, ifs, 0⟩] scope pos) scope env _ (newList []) false (eval iter env) (some (assign (.Name z pz) env))) _ _ s
  refine wpAny_bind (wpAny_mono (wpAny_comprehension_free (use := some (assign (.Name z pz) env)) (Q := fun _ s' => Q .next s') rfl hs hclos hkind hnames
    (wpAny_mono h (fun xv s₁ h₁ => ?_) fun _ _ e => e)) (fun _ s' hq => wpAny_pure (wpAny_pure hq)) fun _ _ e => e)
  obtain ⟨n, P, h₀, L, m, news, p, FF, ⟨fp, St, oI, hiter, W, hst, hfp⟩, hsz, hL, F, N, ⟨ht, he⟩, hd⟩ := h₁
  refine hiter _ _ ?_
  generalize hH : s₁.heap.push oI = H1 at hst ⊢
  have old : ∀ b o, s₁.heap.get? b = some o → H1.get? b = some o := fun b o e => hH ▸ Heap.get?_push_of_some _ e
  have hsz1 : H1.objs.size = s₁.heap.objs.size + 1 := by rw [← hH, Heap.size_push]
  have turnFacts : ∀ (C : Addr) (s₃ : Shared) (m₃ : Str → Option Value), H1.objs.size ≤ C → s₃.heap.Ns C m₃ → (∀ b o, b ∉ [s₁.heap.objs.size] → H1.get? b = some o → s₃.heap.get? b = some o) →
      ∃ oC, LCg.NsObj oC m₃ ∧ Fr h₀ L s₃.heap m ∧ News h₀ L s₃.heap ((C, oC) :: news) ∧ (∀ q ∈ news, q.1 < C) := by
    intro C s₃ m₃ hC hn hk
    obtain ⟨oC, hoC, hns⟩ := LCg.ns_obj hn
    have k3 : ∀ b o, s₁.heap.get? b = some o → s₃.heap.get? b = some o := fun b o e => hk b o (by
      intro hm
      rw [List.mem_singleton.mp hm] at e
      exact absurd (Heap.lt_size e) (Nat.lt_irrefl _)) (old b o e)
    have hCn : s₁.heap.objs.size ≤ C := by rw [hsz1] at hC; exact Nat.le_of_succ_le hC
    have hnone : s₁.heap.get? C = none := Heap.get?_none_of_le hCn
    refine ⟨oC, hns, F.keeps k3, fun q hq => ?_, fun q hq => Nat.lt_of_lt_of_le (Heap.lt_size (N q hq).1) hCn⟩
    rcases List.mem_cons.mp hq with rfl | hq
    · refine ⟨hoC, fun e => ?_, ?_⟩
      · have := F.ns.lt
        rw [← e] at this
        exact absurd (Nat.lt_of_lt_of_le this hCn) (Nat.lt_irrefl _)
      · cases q : h₀.get? C with
        | none => rfl
        | some o => have := F.keep _ _ q; rw [hnone] at this; cases this
    · exact ⟨k3 _ _ (N q hq).1, (N q hq).2⟩
  refine comp_block_walkC (RR := fun acc C => compPost (model prog w) A E (some (assign (.Name z pz) env)) (fun _ s' => Q .next s') acc C) (s₂ := { s₁ with heap := H1 }) W hsz p FF hcell hkind hx hst (fun b hb => ?_) ⟨?_, ?_⟩ ?_
  · show b < H1.objs.size; rw [hsz1]; exact hfp b hb
  · intro C i v s₃ m₃ E' hC hP hn hm hk _
    obtain ⟨oC, h1, h2, h3, h4⟩ := turnFacts C s₃ m₃ hC hn hk
    exact ht i v C oC m₃ s₃ E' hP h1 hm h2 h3 h4
  · intro C i v s₃ m₃ E' hC hP hp hn hm hk _
    obtain ⟨oC, h1, h2, h3, h4⟩ := turnFacts C s₃ m₃ hC hn hk
    exact he i v C oC m₃ s₃ E' hP hp h1 hm h2 h3 h4
  · intro D C h' tk m' ys vs' hD hC hDC hn hlD hplD hlen hP hF hk
    have k0 : ∀ b o, s₁.heap.get? b = some o → h'.get? b = some o := fun b o e => hk b o (by
      intro hm
      rw [List.mem_singleton.mp hm] at e
      exact absurd (Heap.lt_size e) (Nat.lt_irrefl _)) (old b o e)
    have none1 : ∀ b, H1.get? b = none → s₁.heap.get? b = none := fun b e => by
      cases q : s₁.heap.get? b with
      | none => rfl
      | some o => have := old _ _ q; rw [e] at this; cases this
    have none0 : ∀ b, H1.get? b = none → h₀.get? b = none := fun b e => by
      cases q : h₀.get? b with
      | none => rfl
      | some o => have := F.keep _ _ q; rw [none1 b e] at this; cases this
    have neL : ∀ b, H1.get? b = none → b ≠ L := fun b e hb => by
      obtain ⟨oL, _, _, hoL, _⟩ := F.ns
      have := old _ _ hoL
      rw [← hb, e] at this; cases this
    refine post_use hz hp hL (F.keeps k0) (fun q hq => ⟨k0 _ _ (N q hq).1, (N q hq).2⟩) hn (neL C hC) (neL D hD) hDC hplD (none0 C hC) (fun q hq e => by
      have := old _ _ (N q hq).1
      rw [e, hC] at this; cases this) fun h'' tk'' F2 N2 hpl2 k2 => ?_
    refine hd D h'' tk'' ys.toList ⟨vs', hlen, hP, hF⟩ F2 N2 (by simpa using hpl2) (none1 D hD) fun b o hb e => k2 b o hb (fun q => ?_) (k0 b o e)
    rw [q, none1 C hC] at e; cases e
end
end Mine
end
section
open PySem PySem.W PyProof.Rows PySem.Calls
set_option maxRecDepth 100000
set_option maxHeartbeats 0
namespace Mine
section
variable {prog : Program} {w : World} {A : Around} {s : Shared} {elt iter : Expr} {x : Str} {px : Pos} {ifs : List Expr} {scope : Scope} {pos : Pos} {cenv : Env} {R : Result → Shared → Prop}
/-- the loop of a comprehension whose target stands in a cell -/
theorem cell_loop {I D C K : Addr} {fp : List Addr} {n : Nat} {P : Nat → Value → Prop} {St : Nat → Heap → Prop} {mc : Str → Option Value} (W : Walks prog w A I fp [I] n P St) (p : Value → Bool) (F : Value → Value → Prop)
    (hkf : cenv.scope.kind = .function) (hx : cenv.kindOf x = some .cell) (hcl : cenv.cells.lookup x = some K)
    (hDC : D ≠ C) (hDf : D ∉ fp) (hCf : C ∉ fp) (hKf : K ∉ fp) (hDK : D ≠ K) (hCK : C ≠ K) (hst : St 0 s.heap) (hacc : s.heap.PlainList D #[]) (hn : s.heap.Ns C mc) (hcell : s.heap.get? K = some (cellObj none))
    (hsz : n ≤ sizeLine)
    (htests : ∀ i v s₂ oK E', P i v → s₂.heap.Ns C mc → s₂.heap.get? K = some oK → oK.data = .cell (some v) → (∀ b o, b ≠ K → b ≠ I → b ≠ D → s.heap.get? b = some o → s₂.heap.get? b = some o) →
      wpAny (model prog w) A (forIn ifs true fun c r => if r = true then do let ok ← isTrue c cenv (eval c cenv); pure (ForInStep.yield ok) else pure (ForInStep.yield r)) (fun ok s₃ => ok = p v ∧ Keeps s₂ s₃) E' s₂)
    (helt : ∀ i v s₂ oK E', P i v → p v = true → s₂.heap.Ns C mc → s₂.heap.get? K = some oK → oK.data = .cell (some v) → (∀ b o, b ≠ K → b ≠ I → b ≠ D → s.heap.get? b = some o → s₂.heap.get? b = some o) →
      wpAny (model prog w) A (eval elt cenv) (fun u s₃ => F v u ∧ Keeps s₂ s₃) E' s₂)
    (hR : ∀ h' tk (vs ws : List Value), h'.Ns C mc → h'.PlainList D ws.toArray → vs.length = n → (∀ (j : Nat) v, vs[j]? = some v → P j v) → Paired F (vs.filter p) ws →
      (∀ b o, b ≠ K → b ≠ I → b ≠ D → s.heap.get? b = some o → h'.get? b = some o) → R (.ok .next) { s with heap := h', toks := tk }) :
    codeAny (model prog w) A (.compLoop (.ListComp elt [⟨.Name x px, iter, ifs, 0⟩] scope pos) 0 (.ref I) (.ref D) cenv) R s := by
  have hIf : I ∈ fp := W.sub I (List.mem_singleton.mpr rfl)
  have hCI : C ≠ I := fun e => hCf (e ▸ hIf)
  have hDI : D ≠ I := fun e => hDf (e ▸ hIf)
  have hKI : K ≠ I := fun e => hKf (e ▸ hIf)
  refine codeAny_compLoop_tests (fun k s' => ∃ (h' : Heap) (tk : Nat) (vs ws : List Value) (vc : Option Value), s' = { s with heap := h', toks := tk } ∧ St vs.length h' ∧ h'.PlainList D ws.toArray ∧ h'.Ns C mc ∧ h'.IsCell K vc ∧
      (∀ (j : Nat) v, vs[j]? = some v → P j v) ∧ Paired F (vs.filter p) ws ∧ vs.length ≤ n ∧ k = n + 1 - vs.length ∧ (∀ b o, b ≠ K → b ≠ I → b ≠ D → s.heap.get? b = some o → h'.get? b = some o)) ?_ (n + 1)
    ⟨s.heap, s.toks, [], [], none, rfl, hst, by simpa using hacc, hn, ⟨_, hcell, rfl⟩, by simp, .nil, Nat.zero_le _, rfl, fun _ _ _ _ _ e => e⟩
  rintro k s' ⟨H, tk, vs, ws, vc, rfl, hst', hacc', hn', hc', hP, hF, hi, rfl, hk⟩
  by_cases hlt : vs.length < n
  · refine W.item vs.length _ _ _ hlt hst' fun v h₁ tk₁ hPv hst₁ hk₁ => ?_
    have kI : ∀ b o, b ≠ I → H.get? b = some o → h₁.get? b = some o := fun b o hb e => hk₁ b o (fun hm => hb (List.mem_singleton.mp hm)) e
    have hc₁ : h₁.IsCell K vc := by obtain ⟨o, ho, hd⟩ := hc'; exact ⟨o, kI _ o hKI ho, hd⟩
    refine wpAny_assign_Name (wpAny_storeName_cell hkf hx hcl hc₁ fun h₂ hv₂ hs₂ => ?_)
    obtain ⟨oK, hoK, hdK⟩ := hv₂
    have up₂ : ∀ b o, b ≠ K → b ≠ I → H.get? b = some o → h₂.get? b = some o := fun b o hbK hbI e => hs₂.extBut b o hbK (kI b o hbI e)
    have hst₂ : St (vs.length + 1) h₂ := W.frame _ _ _ hst₁ fun b hb o e => hs₂.extBut b o (fun h => hKf (h ▸ hb)) e
    have hn₂ : h₂.Ns C mc := hn'.at' fun o e => up₂ C o hCK hCI e
    have k2 : ∀ b o, b ≠ K → b ≠ I → b ≠ D → s.heap.get? b = some o → h₂.get? b = some o := fun b o hbK hbI hbD e => up₂ b o hbK hbI (hk b o hbK hbI hbD e)
    refine wpAny_mono (htests vs.length v { s with heap := h₂, toks := tk₁ } oK _ hPv hn₂ hoK hdK k2) (fun ok s₃ h₃ => ?_) fun _ _ e => e
    obtain ⟨rfl, h₃, tk₃, rfl, hk₃⟩ := h₃
    have hst₃ : St (vs.length + 1) h₃ := W.frame _ _ _ hst₂ fun b _ o e => hk₃ b o e
    have hacc₃ : h₃.PlainList D ws.toArray := hacc'.at fun o e => hk₃ _ o (up₂ D o hDK hDI e)
    have hn₃ := hn₂.keeps hk₃
    have hP' : ∀ (j : Nat) u, (vs ++ [v])[j]? = some u → P j u := fun j u hj => by
      rcases Nat.lt_trichotomy j vs.length with h | h | h
      · exact hP j u (by rwa [List.getElem?_append_left h] at hj)
      · subst h; simp at hj; subst hj; exact hPv
      · have hnone : (vs ++ [v])[j]? = none := List.getElem?_eq_none (by rw [List.length_append, List.length_singleton]; omega)
        rw [hnone] at hj; cases hj
    have hl1 : (vs ++ [v]).length = vs.length + 1 := by simp
    cases hpv : p v with
    | false =>
      simp only [Bool.false_eq_true, if_false]
      refine ⟨n + 1 - (vs.length + 1), by omega, h₃, tk₃, vs ++ [v], ws, some v, rfl, by rw [hl1]; exact hst₃, hacc₃, hn₃, ⟨oK, hk₃ _ _ hoK, hdK⟩, hP', ?_, by rw [hl1]; exact hlt, by rw [hl1], fun b o hbK hbI hbD e => hk₃ b o (k2 b o hbK hbI hbD e)⟩
      rw [List.filter_append]; simpa [hpv] using hF
    | true =>
      simp only [if_true]
      refine wpAny_mono (helt vs.length v { s with heap := h₃, toks := tk₃ } oK _ hPv hpv hn₃ (hk₃ _ _ hoK) hdK fun b o hbK hbI hbD e => hk₃ b o (k2 b o hbK hbI hbD e)) (fun u s₄ h₄ => ?_) fun _ _ e => e
      obtain ⟨hFu, h₄, tk₄, rfl, hk₄⟩ := h₄
      have hlw : ws.length ≤ vs.length := by
        have e1 := hF.length
        have e2 : (vs.filter p).length ≤ vs.length := List.length_filter_le _ _
        omega
      refine wpAny_list_append_plain (hsz := by rw [List.size_toArray]; omega) (hacc₃.at fun o e => hk₄ _ o e) fun h₅ hl₅ hs₅ => ?_
      refine ⟨n + 1 - (vs.length + 1), by omega, h₅, tk₄, vs ++ [v], ws ++ [u], some v, rfl, ?_, ?_, (hn₃.keeps hk₄).sameBut hs₅ (Ne.symm hDC), ?_, hP', ?_, by rw [hl1]; exact hlt, by rw [hl1],
        fun b o hbK hbI hbD e => hs₅.extBut b o hbD (hk₄ b o (hk₃ b o (k2 b o hbK hbI hbD e)))⟩
      · rw [hl1]; exact W.frame _ _ h₅ hst₃ fun b hb o e => hs₅.extBut b o (fun h => hDf (h ▸ hb)) (hk₄ b o e)
      · simpa using hl₅
      · exact ⟨oK, hs₅.extBut _ _ (Ne.symm hDK) (hk₄ _ _ (hk₃ _ _ hoK)), hdK⟩
      · rw [List.filter_append]; simpa [hpv] using Paired.snoc hF hFu
  · have hin : vs.length = n := by omega
    refine W.done _ _ _ (hin ▸ hst') fun h₁ tk₁ hk₁ => ?_
    have kI : ∀ b o, b ≠ I → H.get? b = some o → h₁.get? b = some o := fun b o hb e => hk₁ b o (fun hm => hb (List.mem_singleton.mp hm)) e
    exact hR h₁ tk₁ vs ws (hn'.at' fun o e => kI _ o hCI e) (hacc'.at fun o e => kI _ o hDI e) hin hP hF fun b o hbK hbI hbD e => kI b o hbI (hk b o hbK hbI hbD e)
end
section
variable {prog : Program} {w : World} {A : Around} {E : Value → Shared → Prop} {env : Env} {s : Shared}
/-- the turns of a comprehension whose target stands in a cell -/
def CellTurns (prog : Program) (w : World) (A : Around) (env : Env) (scope : Scope) (cl : List (Str × Addr)) (x : Str) (ifs : List Expr) (elt : Expr) (h₀ : Heap) (L : Addr) (m : Str → Option Value) (news : List (Addr × Obj)) (P : Nat → Value → Prop) (p : Value → Bool) (FF : Value → Value → Prop) : Prop :=
    (∀ (i : Nat) (v : Value) (C : Addr) (oC oK : Obj) (m₂ : Str → Option Value) (s₃ : Shared) (E' : Value → Shared → Prop), P i v → LCg.NsObj oC m₂ → oK.data = .cell (some v) → Fr h₀ L s₃.heap m → News h₀ L s₃.heap ((C, oC) :: (C + 1, oK) :: news) → (∀ q ∈ news, q.1 < C) →
      wpAny (model prog w) A (forIn ifs true fun c r => if r = true then do let ok ← isTrue c (compEnvC scope ((x, C + 1) :: cl) C env) (eval c (compEnvC scope ((x, C + 1) :: cl) C env)); pure (ForInStep.yield ok) else pure (ForInStep.yield r)) (fun ok s₄ => ok = p v ∧ Keeps s₃ s₄) E' s₃) ∧
    (∀ (i : Nat) (v : Value) (C : Addr) (oC oK : Obj) (m₂ : Str → Option Value) (s₃ : Shared) (E' : Value → Shared → Prop), P i v → p v = true → LCg.NsObj oC m₂ → oK.data = .cell (some v) → Fr h₀ L s₃.heap m → News h₀ L s₃.heap ((C, oC) :: (C + 1, oK) :: news) → (∀ q ∈ news, q.1 < C) →
      wpAny (model prog w) A (eval elt (compEnvC scope ((x, C + 1) :: cl) C env)) (fun y s₄ => FF v y ∧ Keeps s₃ s₄) E' s₃)
def CellAt (prog : Program) (w : World) (A : Around) (env : Env) (scope : Scope) (cl : List (Str × Addr)) (x : Str) (ifs : List Expr) (elt : Expr) (z : Str) (Q : Flow → Shared → Prop) (xv : Value) (s₁ : Shared) : Prop :=
  ∃ (n : Nat) (P : Nat → Value → Prop) (h₀ : Heap) (L : Addr) (m : Str → Option Value) (news : List (Addr × Obj)) (p : Value → Bool) (FF : Value → Value → Prop),
    Src prog w A xv s₁ n P ∧ n ≤ sizeLine ∧ env.locals = L ∧ Fr h₀ L s₁.heap m ∧ News h₀ L s₁.heap news ∧ CellTurns prog w A env scope cl x ifs elt h₀ L m news P p FF ∧
    UseEnd Q z h₀ L m news s₁ (fun ys => ∃ vs : List Value, vs.length = n ∧ (∀ (j : Nat) (v : Value), vs[j]? = some v → P j v) ∧ Paired FF (vs.filter p) ys)
theorem cell_use {elt iter : Expr} {x z : Str} {px pz : Pos} {ifs : List Expr} {scope : Scope} {cl : List (Str × Addr)} {pos spos : Pos} {Q : Flow → Shared → Prop}
    (hsw : swapsWith (.ListComp elt [⟨.Name x px, iter, ifs, 0⟩] scope pos) (some (.Name z pz)) spos.line env = pure true)
    (hclos : closureFor scope env = pure cl) (hc : ∀ n, cellsFrom n scope.names cl = (x, n) :: cl) (hpc : ∀ h, pushCells h scope.names = h.push (cellObj none)) (hkind : scope.kind = .function)
    (hnames : ∀ y ∈ scope.names, y.2 = .local → scope.names.lookup y.1 = some .local) (hx : ∀ C, (compEnvC scope ((x, C + 1) :: cl) C env).kindOf x = some .cell)
    (hz : env.kindOf z = some .local) (hp : (env.scope.kind == .class || (env.scope.kind == .module && env.locals != env.globals)) = false)
    (h : wpAny (model prog w) A (eval iter env) (CellAt prog w A env scope cl x ifs elt z Q) E s)
    (hs : ∀ x, foldedSetIterable iter env x = pure x := by intro _; rfl) :
    wpAny (model prog w) A (exec (.Assign [.Name z pz] (.ListComp elt [⟨.Name x px, iter, ifs, 0⟩] scope pos) spos) env) Q E s := by
  rw [exec_Assign_Name_used _ _ _ _ hsw]
  refine wpAny_bind (wpAny_standAt (wpAny_bind ?_))
  show wpAny _ A (do let _ ← comprehension (.ListComp elt [⟨.Name x px, iter, ifs, 0⟩] scope pos) scope env _ (newList []) false (eval iter env) (some (assign (.Name z pz) env))) _ _ s
  refine wpAny_bind (wpAny_mono (wpAny_comprehension_free (use := some (assign (.Name z pz) env)) (Q := fun _ s' => Q .next s') rfl hs hclos hkind hnames
    (wpAny_mono h (fun xv s₁ h₁ => ?_) fun _ _ e => e)) (fun _ s' hq => wpAny_pure (wpAny_pure hq)) fun _ _ e => e)
  obtain ⟨n, P, h₀, L, m, news, p, FF, ⟨fp, St, oI, hiter, W, hst, hfp⟩, hsz, hL, F, N, ⟨ht, he⟩, hd⟩ := h₁
  refine hiter _ _ ?_
  generalize hH : s₁.heap.push oI = H1 at hst ⊢
  have old1 : ∀ b o, s₁.heap.get? b = some o → H1.get? b = some o := fun b o e => hH ▸ Heap.get?_push_of_some _ e
  have hsz1 : H1.objs.size = s₁.heap.objs.size + 1 := by rw [← hH, Heap.size_push]
  refine wpAny_newObj_type (newEnv_cell hc hpc ?_)
  dsimp only
  generalize hH2 : H1.push { cls := .type "list", dict := none, data := .seq ([] : List Value).toArray } = H2
  generalize hH3 : (H2.push { cls := .type "dict", data := .dict #[] }).push (cellObj none) = H3
  have hC : H2.objs.size = H1.objs.size + 1 := by rw [← hH2, Heap.size_push]
  have hsz3 : H3.objs.size = H2.objs.size + 2 := by rw [← hH3, Heap.size_push, Heap.size_push]
  have up12 : ∀ b o, H1.get? b = some o → H2.get? b = some o := fun b o e => hH2 ▸ Heap.get?_push_of_some _ e
  have up23 : ∀ b o, H2.get? b = some o → H3.get? b = some o := fun b o e => hH3 ▸ Heap.get?_push_of_some _ (Heap.get?_push_of_some _ e)
  have up13 : ∀ b o, H1.get? b = some o → H3.get? b = some o := fun b o e => up23 b o (up12 b o e)
  have hKobj : H3.get? (H2.objs.size + 1) = some (cellObj none) := by
    rw [← hH3]
    have := Heap.get?_push_size (H2.push { cls := .type "dict", data := .dict #[] }) (o := cellObj none) rfl
    rwa [Heap.size_push] at this
  have hCobj : H3.get? H2.objs.size = some { cls := .type "dict", data := .dict #[] } := by rw [← hH3]; exact Heap.get?_push_of_some _ (Heap.get?_push_size _ rfl)
  have hDobj : H3.get? H1.objs.size = some { cls := .type "list", dict := none, data := .seq ([] : List Value).toArray } := up23 _ _ (by rw [← hH2]; exact Heap.get?_push_size _ rfl)
  have hn3 : H3.Ns H2.objs.size (fun _ => none) := ⟨_, #[], _, hCobj, rfl, by simp [StrKeys], fun _ => by simp [nsFind, findBy]⟩
  have hfp' : ∀ b ∈ fp, b < H1.objs.size := fun b hb => by rw [hsz1]; exact hfp b hb
  have hDf : H1.objs.size ∉ fp := fun hm => Nat.lt_irrefl _ (hfp' _ hm)
  have a1 : H1.objs.size < H2.objs.size := by rw [hC]; exact Nat.lt_succ_self _
  have hCf : H2.objs.size ∉ fp := fun hm => Nat.lt_asymm a1 (hfp' _ hm)
  have hKf : H2.objs.size + 1 ∉ fp := fun hm => Nat.lt_asymm (Nat.lt_trans a1 (Nat.lt_succ_self _)) (hfp' _ hm)
  have hst3 : St 0 H3 := W.frame _ _ _ hst fun b _ o e => up13 b o e
  have hacc : H3.PlainList H1.objs.size #[] := ⟨_, hDobj⟩
  have k1 : ∀ b o, s₁.heap.get? b = some o → H3.get? b = some o := fun b o e => up13 b o (old1 b o e)
  have fresh1 : ∀ a, s₁.heap.objs.size ≤ a → s₁.heap.get? a = none := fun a ha => Heap.get?_none_of_le ha
  have fresh0 : ∀ a, s₁.heap.objs.size ≤ a → h₀.get? a = none := fun a ha => by
    cases e : h₀.get? a with
    | none => rfl
    | some o' => have := F.keep a o' e; rw [fresh1 a ha] at this; cases this
  have neL : ∀ a, s₁.heap.objs.size ≤ a → a ≠ L := fun a ha e => by
    have := F.ns.lt
    rw [← e] at this
    exact absurd (Nat.lt_of_lt_of_le this ha) (Nat.lt_irrefl _)
  have ltN : ∀ q ∈ news, q.1 < s₁.heap.objs.size := fun q hq => Heap.lt_size (N q hq).1
  have hDs : s₁.heap.objs.size ≤ H1.objs.size := by rw [hsz1]; exact Nat.le_succ _
  have hCs : s₁.heap.objs.size ≤ H2.objs.size := by rw [hC, hsz1]; exact Nat.le_succ_of_le (Nat.le_succ _)
  have hKs : s₁.heap.objs.size ≤ H2.objs.size + 1 := Nat.le_succ_of_le hCs
  have turnFacts : ∀ (s₃ : Shared) (oK : Obj), s₃.heap.Ns H2.objs.size (fun _ => none) → s₃.heap.get? (H2.objs.size + 1) = some oK → (∀ b o, b ≠ H2.objs.size + 1 → b ≠ s₁.heap.objs.size → b ≠ H1.objs.size → H3.get? b = some o → s₃.heap.get? b = some o) →
      ∃ oC, LCg.NsObj oC (fun _ => none) ∧ Fr h₀ L s₃.heap m ∧ News h₀ L s₃.heap ((H2.objs.size, oC) :: (H2.objs.size + 1, oK) :: news) ∧ (∀ q ∈ news, q.1 < H2.objs.size) := by
    intro s₃ oK hn hoK hk
    obtain ⟨oC, hoC, hns⟩ := LCg.ns_obj hn
    have k3 : ∀ b o, s₁.heap.get? b = some o → s₃.heap.get? b = some o := fun b o e => by
      have hb := Heap.lt_size e
      exact hk b o (Nat.ne_of_lt (Nat.lt_of_lt_of_le hb hKs)) (Nat.ne_of_lt hb) (Nat.ne_of_lt (Nat.lt_of_lt_of_le hb hDs)) (k1 b o e)
    refine ⟨oC, hns, F.keeps k3, fun q hq => ?_, fun q hq => Nat.lt_of_lt_of_le (ltN q hq) hCs⟩
    rcases List.mem_cons.mp hq with rfl | hq
    · exact ⟨hoC, neL _ hCs, fresh0 _ hCs⟩
    · rcases List.mem_cons.mp hq with rfl | hq
      · exact ⟨hoK, neL _ hKs, fresh0 _ hKs⟩
      · exact ⟨k3 _ _ (N q hq).1, (N q hq).2⟩
  have fin : ∀ (tk0 : Nat), codeAny (model prog w) A (.compLoop (.ListComp elt [⟨.Name x px, iter, ifs, 0⟩] scope pos) 0 (.ref s₁.heap.objs.size) (.ref H1.objs.size) (compEnvC scope ((x, H2.objs.size + 1) :: cl) H2.objs.size env))
      (compPost (model prog w) A E (some (assign (.Name z pz) env)) (fun _ s' => Q .next s') (.ref H1.objs.size) H2.objs.size) { s₁ with heap := H3, toks := tk0 } := by
    intro tk0
    refine cell_loop (s := { s₁ with heap := H3, toks := tk0 }) (cenv := compEnvC scope ((x, H2.objs.size + 1) :: cl) H2.objs.size env) (C := H2.objs.size) (K := H2.objs.size + 1) W p FF (by simp [compEnvC, relabel, hkind]) (hx _) (by simp [compEnvC]) (Nat.ne_of_lt a1) hDf hCf hKf (Nat.ne_of_lt (Nat.lt_succ_of_lt a1)) (Nat.ne_of_lt (Nat.lt_succ_self _)) hst3 hacc hn3 hKobj hsz ?_ ?_ ?_
    · intro i v s₃ oK E' hPv hn hoK hdK hk
      obtain ⟨oC, h1, h2, h3, h4⟩ := turnFacts s₃ oK hn hoK hk
      exact ht i v H2.objs.size oC oK _ s₃ E' hPv h1 hdK h2 h3 h4
    · intro i v s₃ oK E' hPv hpv hn hoK hdK hk
      obtain ⟨oC, h1, h2, h3, h4⟩ := turnFacts s₃ oK hn hoK hk
      exact he i v H2.objs.size oC oK _ s₃ E' hPv hpv h1 hdK h2 h3 h4
    · intro h' tk vs ws hn hpl hlen hP hF hk
      have k0 : ∀ b o, s₁.heap.get? b = some o → h'.get? b = some o := fun b o e => by
        have hb := Heap.lt_size e
        exact hk b o (Nat.ne_of_lt (Nat.lt_of_lt_of_le hb hKs)) (Nat.ne_of_lt hb) (Nat.ne_of_lt (Nat.lt_of_lt_of_le hb hDs)) (k1 b o e)
      refine post_use hz hp hL (F.keeps k0) (fun q hq => ⟨k0 _ _ (N q hq).1, (N q hq).2⟩) hn (neL _ hCs) (neL _ hDs) (Nat.ne_of_lt a1) hpl (fresh0 _ hCs) (fun q hq => Nat.ne_of_lt (Nat.lt_of_lt_of_le (ltN q hq) hCs)) fun h'' tk'' F2 N2 hpl2 k2 => ?_
      refine hd H1.objs.size h'' tk'' ws ⟨vs, hlen, hP, hF⟩ F2 N2 hpl2 (fresh1 _ hDs) fun b o hb e => k2 b o hb (fun q => ?_) (k0 b o e)
      rw [q, fresh1 _ hCs] at e; cases e
  exact codeAny_compStart_list (fin _) (W.self 0 _ _ _ hst3 (fin _))
/-- two clauses, stored under a name -/
def Use2At (prog : Program) (w : World) (A : Around) (env : Env) (cenvOf : Addr → Env) (x y : Str) (i2 : Expr) (ifs2 : List Expr) (elt : Expr) (z : Str) (Q : Flow → Shared → Prop) (xv : Value) (s₁ : Shared) : Prop :=
  ∃ (n : Nat) (P : Nat → Value → Prop) (h₀ : Heap) (L : Addr) (m : Str → Option Value) (news : List (Addr × Obj)) (FF : Value → List Value → Prop),
    Src prog w A xv s₁ n P ∧ n ≤ 1000 ∧ env.locals = L ∧ Fr h₀ L s₁.heap m ∧ News h₀ L s₁.heap news ∧
    (∀ (i : Nat) (v : Value) (C : Addr) (oC : Obj) (m₂ : Str → Option Value) (s₃ : Shared) (E' : Value → Shared → Prop), P i v → LCg.NsObj oC m₂ → m₂ x = some v → Fr h₀ L s₃.heap m → News h₀ L s₃.heap ((C, oC) :: news) → (∀ q ∈ news, q.1 < C) →
      wpAny (model prog w) A (eval i2 (cenvOf C)) (InnerAt prog w A cenvOf x y ifs2 elt h₀ L m news FF v C s₃) E' s₃) ∧
    UseEnd Q z h₀ L m news s₁ (fun ys => ∃ (vs : List Value) (wss : List (List Value)), vs.length = n ∧ (∀ (j : Nat) (v : Value), vs[j]? = some v → P j v) ∧ Paired FF vs wss ∧ ys = wss.flatten)
theorem comp2_use {elt i1 i2 : Expr} {x y z : Str} {px py pz : Pos} {ifs2 : List Expr} {scope : Scope} {cl : List (Str × Addr)} {pos spos : Pos} {Q : Flow → Shared → Prop}
    (hsw : swapsWith (.ListComp elt [⟨.Name x px, i1, [], 0⟩, ⟨.Name y py, i2, ifs2, 0⟩] scope pos) (some (.Name z pz)) spos.line env = pure true)
    (hz : env.kindOf z = some .local) (hp : (env.scope.kind == .class || (env.scope.kind == .module && env.locals != env.globals)) = false)
    (hclos : closureFor scope env = pure cl) (hcell : ∀ z ∈ scope.names, z.2 ≠ .cell) (hkind : scope.kind = .function)
    (hnames : ∀ z ∈ scope.names, z.2 = .local → scope.names.lookup z.1 = some .local) (hx : scope.names.lookup x = some .local) (hy : scope.names.lookup y = some .local) (hxy : x ≠ y)
    (h : wpAny (model prog w) A (eval i1 env) (Use2At prog w A env (fun C => compEnvC scope cl C env) x y i2 ifs2 elt z Q) E s)
    (hs : ∀ z, foldedSetIterable i1 env z = pure z := by intro _; rfl) (hs2 : ∀ C z, foldedSetIterable i2 (compEnvC scope cl C env) z = pure z := by intro _ _; rfl) :
    wpAny (model prog w) A (exec (.Assign [.Name z pz] (.ListComp elt [⟨.Name x px, i1, [], 0⟩, ⟨.Name y py, i2, ifs2, 0⟩] scope pos) spos) env) Q E s := by
  rw [exec_Assign_Name_used _ _ _ _ hsw]
  refine wpAny_bind (wpAny_standAt (wpAny_bind ?_))
  show wpAny _ A (do let _ ← comprehension (.ListComp elt [⟨.Name x px, i1, [], 0⟩, ⟨.Name y py, i2, ifs2, 0⟩] scope pos) scope env _ (newList []) false (eval i1 env) (some (assign (.Name z pz) env))) _ _ s
  refine wpAny_bind (wpAny_mono (wpAny_comprehension_free (use := some (assign (.Name z pz) env)) (Q := fun _ s' => Q .next s') rfl hs hclos hkind hnames
    (wpAny_mono h (fun xv s₁ h₁ => ?_) fun _ _ e => e)) (fun _ s' hq => wpAny_pure (wpAny_pure hq)) fun _ _ e => e)
  obtain ⟨n, P, h₀, L, m, news, FF, ⟨fp, St, oI, hiter, W, hst, hfp⟩, hsz, hL, F, N, hin, hd⟩ := h₁
  refine hiter _ _ ?_
  generalize hH : s₁.heap.push oI = H1 at hst ⊢
  have old1 : ∀ b o, s₁.heap.get? b = some o → H1.get? b = some o := fun b o e => hH ▸ Heap.get?_push_of_some _ e
  have hsz1 : H1.objs.size = s₁.heap.objs.size + 1 := by rw [← hH, Heap.size_push]
  refine wpAny_newObj_type (wpAny_newFunctionEnv hcell (by intro z hz; simp at hz) (fun h₁ hns₁ hsb₁ => ?_) hkind)
  dsimp only at hns₁ hsb₁ ⊢
  generalize hH2 : H1.push { cls := .type "list", dict := none, data := .seq ([] : List Value).toArray } = H2 at hns₁ hsb₁ ⊢
  have hC : H2.objs.size = H1.objs.size + 1 := by rw [← hH2, Heap.size_push]
  have hDC : H1.objs.size ≠ H2.objs.size := by rw [hC]; exact Nat.ne_of_lt (Nat.lt_succ_self _)
  have below : ∀ b, b < H1.objs.size → b ≠ H2.objs.size ∧ b ≠ H1.objs.size := fun b hb => ⟨by rw [hC]; exact Nat.ne_of_lt (Nat.lt_succ_of_lt hb), Nat.ne_of_lt hb⟩
  have hfp' : ∀ b ∈ fp, b < H1.objs.size := fun b hb => by rw [hsz1]; exact hfp b hb
  have hDf : H1.objs.size ∉ fp := fun hm => Nat.lt_irrefl _ (hfp' _ hm)
  have hCf : H2.objs.size ∉ fp := fun hm => by have := hfp' _ hm; rw [hC] at this; exact Nat.lt_irrefl _ (Nat.lt_of_succ_lt this)
  have old : ∀ b o, H1.get? b = some o → h₁.get? b = some o := fun b o e => hsb₁.extBut b o (below b (Heap.lt_size e)).1 (Heap.get?_push_of_some _ (hH2 ▸ Heap.get?_push_of_some _ e))
  have hacc : h₁.PlainList H1.objs.size #[] := ⟨_, hsb₁.extBut _ _ hDC (Heap.get?_push_of_some _ (hH2 ▸ Heap.get?_push_size _ rfl))⟩
  have hst₁ : St 0 h₁ := W.frame _ _ _ hst fun b _ o e => old b o e
  have fresh1 : ∀ a, s₁.heap.objs.size ≤ a → s₁.heap.get? a = none := fun a ha => Heap.get?_none_of_le ha
  have fresh0 : ∀ a, s₁.heap.objs.size ≤ a → h₀.get? a = none := fun a ha => by
    cases e : h₀.get? a with
    | none => rfl
    | some o' => have := F.keep a o' e; rw [fresh1 a ha] at this; cases this
  have neL : ∀ a, s₁.heap.objs.size ≤ a → a ≠ L := fun a ha e => by
    have := F.ns.lt
    rw [← e] at this
    exact absurd (Nat.lt_of_lt_of_le this ha) (Nat.lt_irrefl _)
  have ltN : ∀ q ∈ news, q.1 < s₁.heap.objs.size := fun q hq => Heap.lt_size (N q hq).1
  have hIs : s₁.heap.objs.size ≤ s₁.heap.objs.size := Nat.le_refl _
  have hDs : s₁.heap.objs.size ≤ H1.objs.size := by rw [hsz1]; exact Nat.le_succ _
  have hCs : s₁.heap.objs.size ≤ H2.objs.size := by rw [hC, hsz1]; exact Nat.le_succ_of_le (Nat.le_succ _)
  have k1 : ∀ b o, s₁.heap.get? b = some o → h₁.get? b = some o := fun b o e => old b o (old1 b o e)
  have fin : ∀ (tk0 : Nat), codeAny (model prog w) A (.compLoop (E2 elt x px i1 y py i2 ifs2 scope pos) 0 (.ref s₁.heap.objs.size) (.ref H1.objs.size) (compEnvC scope cl H2.objs.size env))
      (compPost (model prog w) A E (some (assign (.Name z pz) env)) (fun _ s' => Q .next s') (.ref H1.objs.size) H2.objs.size) { s₁ with heap := h₁, toks := tk0 } := by
    intro tk0
    refine outer_loop (s := { s₁ with heap := h₁, toks := tk0 }) (cenvOf := fun C => compEnvC scope cl C env) (C := H2.objs.size) W rfl (lookup_relabel_local hx) (lookup_relabel_local hy) hxy (by simp [compEnvC, relabel, hkind]) (hs2 _) hDC hDf hCf hst₁ hacc hns₁ hsz
      (F.keeps k1) (fun q hq => ⟨k1 _ _ (N q hq).1, (N q hq).2⟩) (fresh0 _ hCs) (neL _ hCs) (fun q hq => Nat.lt_of_lt_of_le (ltN q hq) hCs) (fresh0 _ hDs) (neL _ hDs) (fun q hq => Nat.ne_of_lt (Nat.lt_of_lt_of_le (ltN q hq) hDs)) (fresh0 _ hIs) (neL _ hIs) (fun q hq => Nat.ne_of_lt (ltN q hq)) hin ?_
    intro h' tk m' vs wss hn' hpl hlen hP hF hk
    have k0 : ∀ b o, s₁.heap.get? b = some o → h'.get? b = some o := fun b o e => by
      have hb := Heap.lt_size e
      exact hk b o (Nat.ne_of_lt (Nat.lt_of_lt_of_le hb hCs)) (Nat.ne_of_lt hb) (Nat.ne_of_lt (Nat.lt_of_lt_of_le hb hDs)) (k1 b o e)
    refine post_use hz hp hL (F.keeps k0) (fun q hq => ⟨k0 _ _ (N q hq).1, (N q hq).2⟩) hn' (neL _ hCs) (neL _ hDs) hDC hpl (fresh0 _ hCs) (fun q hq => Nat.ne_of_lt (Nat.lt_of_lt_of_le (ltN q hq) hCs)) fun h'' tk'' F2 N2 hpl2 k2 => ?_
    refine hd H1.objs.size h'' tk'' wss.flatten ⟨vs, wss, hlen, hP, hF, rfl⟩ F2 N2 hpl2 (fresh1 _ hDs) fun b o hb e => k2 b o hb (fun q => ?_) (k0 b o e)
    rw [q, fresh1 _ hCs] at e; cases e
  exact start_outer (cenv := compEnvC scope cl H2.objs.size env) (fin _) (W.self 0 _ _ _ hst₁ (fin _))
end
end Mine
end
section
open PySem PySem.W PyProof.Rows PySem.Calls
set_option maxRecDepth 100000
set_option maxHeartbeats 0
namespace Mine
section
variable {prog : Program} {w : World} {A : Around} {E : Value → Shared → Prop} {s : Shared} {env : Env} {h₀ : Heap} {x : Str} {body : List Stmt} {Q : Flow → Shared → Prop}
theorem unrPost_mono {L I : Addr} {s₁ : Shared} {it : Obj} {J J' : (Str → Option Value) → List (Addr × Obj) → Prop} (hJ : ∀ m news, J m news → J' m news) : ∀ f s₂, UnrPost h₀ L s₁ I it J Q f s₂ → UnrPost h₀ L s₁ I it J' Q f s₂ := by
  intro f s₂ h
  have e : UnrEnd h₀ L s₁ I it J s₂ → UnrEnd h₀ L s₁ I it J' s₂ := by
    rintro ⟨h', tk, m', news', e, F, N, o, j⟩
    exact ⟨h', tk, m', news', e, F, N, o, hJ _ _ j⟩
  cases f with
  | ret v => exact h
  | brk => exact h
  | next => exact e h
  | cont => exact e h
theorem krs_inv {I : Addr} {a c : Int} {n : Nat} (J : Nat → (Str → Option Value) → List (Addr × Obj) → Prop)
    (turn : ∀ i m news t h tk, i < n → J i m news → Fr h₀ env.locals h (fun y => if y = x then some (.int (a + (i : Int) * c) t) else m y) → News h₀ env.locals h ((I, krsIt (a + ((i + 1 : Nat) : Int) * c) ((n : Int) - ((i + 1 : Nat) : Int)) c) :: news) →
      wpAny (model prog w) A (execs body env) (UnrPost h₀ env.locals { s with heap := h, toks := tk } I (krsIt (a + ((i + 1 : Nat) : Int) * c) ((n : Int) - ((i + 1 : Nat) : Int)) c) (J (i + 1)) Q) E { s with heap := h, toks := tk })
    (done : ∀ m news h tk, J n m news → Fr h₀ env.locals h m → News h₀ env.locals h news → Q .next { s with heap := h, toks := tk }) :
    ∀ k i m news, k + i = n → J i m news → KrsRest prog w A E h₀ env x body Q s I a c n k i m news := by
  intro k
  induction k with
  | zero => intro i m news hk hj h tk F N; exact done m news h tk (by rw [← hk, Nat.zero_add]; exact hj) F N
  | succ k ih =>
    intro i m news hk hj t h tk F N
    refine wpAny_mono (turn i m news t h tk (by omega) hj F N) (unrPost_mono fun m' news' hj' => ih (i + 1) m' news' (by omega) hj') fun _ _ e => e
end
/-- the names at a turn's start -/
abbrev mapN (m₀ : Str → Option Value) (a b : Value) (u v : Option Value) : Str → Option Value := fun y => if y = Str.ofString "left" then some a else if y = Str.ofString "due" then some b else if y = Str.ofString "size" then u else if y = Str.ofString "grown" then v else m₀ y
/-- left and due hold the same names -/
def JL (P : Nat → List Str → Prop) (m₀ : Str → Option Value) (rest : List (Addr × Obj)) (i : Nat) (m : Str → Option Value) (news : List (Addr × Obj)) : Prop :=
  ∃ (a b : Addr) (vs us : List Value) (xs : List Str) (ca cb : Nat) (u v : Option Value), m = mapN m₀ (.ref a) (.ref b) u v ∧ news = (a, lstObj vs.toArray ca) :: (b, lstObj us.toArray cb) :: rest ∧ Strs vs xs ∧ Strs us xs ∧ P i xs
section
variable {prog : Program} {w : World} {A : Around} {E : Value → Shared → Prop} {s : Shared} {env : Env} {h₀ : Heap} {x : Str} {body : List Stmt} {Q : Flow → Shared → Prop}
theorem law_loop {r : Addr} {t₀ u₀ v₀ : Tok} {m₀ : Str → Option Value} {all rest : List (Addr × Obj)} {a₀ b₀ : Addr} {vs₀ us₀ : List Value} {xs₀ : List Str} {ca₀ cb₀ : Nat} (P : Nat → List Str → Prop)
    (hh : A.handled = none) (hr : IsRange s.heap r 1 7 1 t₀ u₀ v₀) (F : Fr h₀ env.locals s.heap m₀) (N : News h₀ env.locals s.heap all)
    (sub : ∀ p ∈ (a₀, lstObj vs₀.toArray ca₀) :: (b₀, lstObj us₀.toArray cb₀) :: rest, p ∈ all)
    (hl : m₀ (Str.ofString "left") = some (.ref a₀)) (hd : m₀ (Str.ofString "due") = some (.ref b₀)) (hs₁ : Strs vs₀ xs₀) (hs₂ : Strs us₀ xs₀) (h0 : P 0 xs₀)
    (turn : ∀ (iT : Nat) (aT bT IT : Addr) (vsT usT : List Value) (xsT : List Str) (caT cbT : Nat) (uT vT : Option Value) (tT : Tok) (hT : Heap) (tkT : Nat) (hiT : iT < 6) (hsT1 : Strs vsT xsT) (hsT2 : Strs usT xsT) (hPT : P iT xsT)
      (FT : Fr h₀ env.locals hT (fun y => if y = x then some (.int (1 + (iT : Int) * 1) tT) else mapN m₀ (.ref aT) (.ref bT) uT vT y)) (NT : News h₀ env.locals hT ((IT, krsIt (1 + ((iT + 1 : Nat) : Int) * 1) (((6 : Nat) : Int) - ((iT + 1 : Nat) : Int)) 1) :: (aT, lstObj vsT.toArray caT) :: (bT, lstObj usT.toArray cbT) :: rest)) (hIT : ∀ p ∈ rest, p.1 < IT),
      wpAny (model prog w) A (execs body env) (UnrPost h₀ env.locals { s with heap := hT, toks := tkT } IT (krsIt (1 + ((iT + 1 : Nat) : Int) * 1) (((6 : Nat) : Int) - ((iT + 1 : Nat) : Int)) 1) (JL P m₀ rest (iT + 1)) Q) E { s with heap := hT, toks := tkT })
    (done : ∀ (aT bT : Addr) (vsT usT : List Value) (xsT : List Str) (caT cbT : Nat) (uT vT : Option Value) (hT : Heap) (tkT : Nat) (hsT1 : Strs vsT xsT) (hsT2 : Strs usT xsT) (hPT : P 6 xsT) (FT : Fr h₀ env.locals hT (mapN m₀ (.ref aT) (.ref bT) uT vT)) (NT : News h₀ env.locals hT ((aT, lstObj vsT.toArray caT) :: (bT, lstObj usT.toArray cbT) :: rest)),
      Q .next { s with heap := hT, toks := tkT }) :
    wpAny (model prog w) A (pyIter (.ref r)) (fun it s₂ => LoopAtV prog w A h₀ env x body Q E it s₂) E s := by
  have N' : News h₀ env.locals s.heap ((a₀, lstObj vs₀.toArray ca₀) :: (b₀, lstObj us₀.toArray cb₀) :: rest) := fun p hp => N p (sub p hp)
  refine krs_iter (n := 6) hh hr (by decide) (by decide) F N' fun I hI => ?_
  refine krs_inv (JL P m₀ rest) ?_ ?_ 6 0 _ _ rfl ⟨a₀, b₀, vs₀, us₀, xs₀, ca₀, cb₀, m₀ (Str.ofString "size"), m₀ (Str.ofString "grown"), ?_, rfl, hs₁, hs₂, h0⟩
  · rintro i m news t h tk hi ⟨a, b, vs, us, xs, ca, cb, u, v, rfl, rfl, h1, h2, h3⟩ F1 N1
    exact turn i a b I vs us xs ca cb u v t h tk hi h1 h2 h3 F1 N1 fun p hp => hI p (.tail _ (.tail _ hp))
  · rintro m news h tk ⟨a, b, vs, us, xs, ca, cb, u, v, rfl, rfl, h1, h2, h3⟩ F1 N1
    exact done a b vs us xs ca cb u v h tk h1 h2 h3 F1 N1
  · funext y
    show m₀ y = if y = Str.ofString "left" then some (.ref a₀) else if y = Str.ofString "due" then some (.ref b₀) else if y = Str.ofString "size" then m₀ (Str.ofString "size") else if y = Str.ofString "grown" then m₀ (Str.ofString "grown") else m₀ y
    by_cases e1 : y = Str.ofString "left"
    · rw [if_pos e1, e1, hl]
    · rw [if_neg e1]
      by_cases e2 : y = Str.ofString "due"
      · rw [if_pos e2, e2, hd]
      · rw [if_neg e2]
        by_cases e3 : y = Str.ofString "size"
        · rw [if_pos e3, e3]
        · rw [if_neg e3]
          by_cases e4 : y = Str.ofString "grown"
          · rw [if_pos e4, e4]
          · rw [if_neg e4]
end
end Mine
end
section
open PySem PySem.W PyProof.Rows PySem.Calls
set_option maxRecDepth 100000
set_option maxHeartbeats 0
namespace Mine
theorem news_add {h₀ h h' : Heap} {L D : Addr} {m : Str → Option Value} {o : Obj} {news : List (Addr × Obj)} (F : Fr h₀ L h m) (N : News h₀ L h' news) (hD : h'.get? D = some o) (hn : h.get? D = none) : News h₀ L h' ((D, o) :: news) := fun q hq => by
  rcases List.mem_cons.mp hq with rfl | hq
  · refine ⟨hD, ?_, ?_⟩
    · rintro rfl
      obtain ⟨o, _, _, e, _⟩ := F.ns
      rw [hn] at e; cases e
    · exact none_down F hn
  · exact N q hq
theorem ints_get {vs : List Value} {ns : List Int} {i : Nat} {v : Value} (h : IntsAre vs ns) (hv : vs[i]? = some v) : ∃ n t, ns[i]? = some n ∧ v = .int n t := by
  have hl : i < ns.length := by
    rw [← h.length]
    exact (List.getElem?_eq_some_iff.mp hv).1
  obtain ⟨t, hx⟩ := h.get i ns[i] (by simp [hl])
  rw [hx] at hv
  exact ⟨_, t, by simp [hl], (Option.some.inj hv).symm⟩
/-- the agents: words and their case -/
def agText (a : List Bool × Bool) : Str := agentText a.1 a.2
theorem agents_of : ∀ {vs ys : List Value}, Paired (fun _ y => ∃ (bs : List Bool) (up : Bool) (t : Tok), 1 ≤ bs.length ∧ bs.length ≤ 3 ∧ y = .str (agentText bs up) t) vs ys →
    ∃ ags : List (List Bool × Bool), ags.length = ys.length ∧ Strs ys (ags.map agText) ∧ ∀ a ∈ ags, 1 ≤ a.1.length ∧ a.1.length ≤ 3
  | _, _, .nil => ⟨[], rfl, .nil, by simp⟩
  | _, _, .cons ⟨bs, up, t, h1, h3, e⟩ h => by
    obtain ⟨ags, hl, hs, hb⟩ := agents_of h
    subst e
    refine ⟨(bs, up) :: ags, by simp [hl], .cons _ t hs, fun a ha => ?_⟩
    rcases List.mem_cons.mp ha with rfl | ha
    · exact ⟨h1, h3⟩
    · exact hb a ha
theorem agText_len {a : List Bool × Bool} (h : a.1.length ≤ 3) : (agText a).length ≤ 9 := by
  have := word_len a.1
  show (agentText a.1 a.2).length ≤ 9
  unfold agentText
  split
  · exact Nat.le_trans (len_upper _) (by omega)
  · omega
def smText (a : List Bool × Bool) : Str := Txt.lower (agText a)
theorem small_of {ags : List (List Bool × Bool)} : ∀ {vs ys : List Value}, Strs vs (ags.map agText) → Paired (fun v y => ∃ (x : Str) (t t' : Tok), v = .str x t ∧ y = .str (Txt.lower x) t') vs ys → Strs ys (ags.map smText) := by
  induction ags with
  | nil => intro vs ys h hp; cases h; cases hp; exact .nil
  | cons a ags ih =>
    intro vs ys h hp
    cases h with
    | cons _ t h =>
      cases hp with
      | cons e hp =>
        obtain ⟨x, t1, t2, e1, rfl⟩ := e
        cases e1
        exact .cons _ t2 (ih h hp)
theorem news_sub {h₀ h : Heap} {L : Addr} {news news' : List (Addr × Obj)} (N : News h₀ L h news) (hs : ∀ p ∈ news', p ∈ news) : News h₀ L h news' := fun p hp => N p (hs p hp)
def grow (xs : List Str) : List Str := xs.flatMap fun x => [x ++ Str.ofString "a", x ++ Str.ofString "b"]
def okD (sm : List Str) (x : Str) : Bool := !([1, 2, 3].any fun (k : Int) => sm.any (· == Txt.slice x (some (-k)) none))
def dueN (sm : List Str) : Nat → List Str
  | 0 => [Str.ofString ""]
  | n + 1 => (grow (dueN sm n)).filter (okD sm)
theorem swap_sub {α : Type} {a b : α} {rest : List α} : ∀ p ∈ a :: b :: rest, p ∈ b :: a :: rest := fun p hp => by
  rcases List.mem_cons.mp hp with h | hp
  · exact .tail _ (h ▸ .head _)
  · rcases List.mem_cons.mp hp with h | hp
    · exact h ▸ .head _
    · exact .tail _ (.tail _ hp)
theorem fr_up {h₀ h h' : Heap} {L : Addr} {m : Str → Option Value} (F : Fr h₀ L h m) (U : Up [L] h h') : Fr h₀ L h' m := by
  obtain ⟨o, es, ep, ho, hd, hk, hf⟩ := F.ns
  obtain ⟨sl, hsl⟩ := (U L o ho).2 (.head _)
  refine ⟨⟨_, es, ep, hsl, hd, hk, hf⟩, fun b o e => (U b o (F.keep b o e)).1 fun hm => ?_, F.above⟩
  have := Nat.lt_of_lt_of_le (Heap.lt_size e) F.above
  rw [List.mem_singleton.mp hm] at this
  exact Nat.lt_irrefl _ this
theorem news_up {h₀ h h' : Heap} {L : Addr} {news : List (Addr × Obj)} (N : News h₀ L h news) (U : Up [L] h h') : News h₀ L h' news := fun q hq =>
  ⟨(U q.1 q.2 (N q hq).1).1 fun hm => (N q hq).2.1 (List.mem_singleton.mp hm), (N q hq).2⟩
end Mine
end
section
open PySem PySem.W PyProof.Rows PySem.Calls
set_option maxRecDepth 100000
set_option maxHeartbeats 0
namespace Mine
theorem sign_ab {j : Nat} {u : Value} (h : SignAt (Str.ofString "ab") j u) : ∃ (b : Bool) (t : Tok), u = .str (if b then Str.ofString "b" else Str.ofString "a") t ∧ (j = 0 → b = false) ∧ (j = 1 → b = true) ∧ j < 2 := by
  obtain ⟨c, t, hc, rfl⟩ := h
  have e : (Str.ofString "ab").cps = #[97, 98] := by decide
  rw [e] at hc
  rcases j with _ | _ | j
  · cases hc; exact ⟨false, t, congrArg (Value.str · t) (show _ = (if false = true then Str.ofString "b" else Str.ofString "a") from by decide), fun _ => rfl, by intro h; omega, by omega⟩
  · cases hc; exact ⟨true, t, congrArg (Value.str · t) (show _ = (if true = true then Str.ofString "b" else Str.ofString "a") from by decide), by intro h; omega, fun _ => rfl, by omega⟩
  · simp at hc
theorem letters_of {ws : List Value} {x : Str} {vs2 : List Value} (hlen : vs2.length = (Str.ofString "ab").cps.size) (hs : ∀ (j : Nat) (u : Value), vs2[j]? = some u → SignAt (Str.ofString "ab") j u) (hP : Paired (fun u z => ∃ (y : Str) (t t' : Tok), u = .str y t ∧ z = .str (x ++ y) t') vs2 ws) : Strs ws [x ++ Str.ofString "a", x ++ Str.ofString "b"] := by
  obtain ⟨u1, u2, rfl⟩ : ∃ u1 u2, vs2 = [u1, u2] := by
    rcases vs2 with _ | ⟨u1, _ | ⟨u2, _ | ⟨u3, r⟩⟩⟩
    all_goals (have h2 : (Str.ofString "ab").cps.size = 2 := by decide)
    all_goals (rw [h2] at hlen; simp at hlen)
    exact ⟨u1, u2, rfl⟩
  obtain ⟨b1, t1, rfl, hb1, _, _⟩ := sign_ab (hs 0 u1 rfl)
  obtain ⟨b2, t2, rfl, _, hb2, _⟩ := sign_ab (hs 1 u2 rfl)
  rw [hb1 rfl, hb2 rfl] at hP
  cases hP with
  | cons e hP =>
    cases hP with
    | cons e2 hP =>
      cases hP
      obtain ⟨y, t, t', e1, rfl⟩ := e
      obtain ⟨y2, t2, t2', e2, rfl⟩ := e2
      cases e1; cases e2
      exact .cons _ _ (.cons _ _ .nil)
theorem strs_append {vs vs' : List Value} {xs xs' : List Str} (h : Strs vs xs) (h' : Strs vs' xs') : Strs (vs ++ vs') (xs ++ xs') := by
  induction h with
  | nil => exact h'
  | cons x t _ ih => exact .cons x t ih
theorem grow_of : ∀ {vs : List Value} {xs : List Str} {wss : List (List Value)}, Strs vs xs → Paired (fun v ws => ∃ (x : Str) (t : Tok), v = .str x t ∧ Strs ws [x ++ Str.ofString "a", x ++ Str.ofString "b"]) vs wss → Strs wss.flatten (grow xs)
  | _, _, _, .nil, .nil => .nil
  | _, _, _, .cons x t h, .cons ⟨x', t', e, hw⟩ hp => by
    cases e
    rw [List.flatten_cons]
    exact strs_append hw (grow_of h hp)
theorem grow_len {xs : List Str} : (grow xs).length = 2 * xs.length := by
  induction xs with
  | nil => rfl
  | cons x xs ih => show (_ :: _ :: grow xs).length = _; rw [List.length_cons, List.length_cons, ih, List.length_cons]; omega
theorem grow_mem {xs : List Str} {y : Str} (h : y ∈ grow xs) : ∃ x ∈ xs, y = x ++ Str.ofString "a" ∨ y = x ++ Str.ofString "b" := by
  obtain ⟨x, hx, hy⟩ := List.mem_flatMap.mp h
  simp only [List.mem_cons, List.not_mem_nil, or_false] at hy
  exact ⟨x, hx, hy⟩
theorem due_len {sm : List Str} : ∀ {i : Nat}, (dueN sm i).length ≤ 2 ^ i
  | 0 => Nat.le_refl _
  | i + 1 => by
    have ih := due_len (sm := sm) (i := i)
    refine Nat.le_trans (List.length_filter_le _ _) ?_
    rw [grow_len, Nat.pow_succ]; omega
theorem due_mem {sm : List Str} : ∀ {i : Nat} {x : Str}, x ∈ dueN sm i → x.length = i
  | 0, x, h => by rw [List.mem_singleton.mp h]; rfl
  | i + 1, x, h => by
    obtain ⟨y, hy, e⟩ := grow_mem (List.mem_filter.mp h).1
    have ih := due_mem hy
    have h1 : (Str.ofString "a").length = 1 := by decide
    have h2 : (Str.ofString "b").length = 1 := by decide
    rcases e with rfl | rfl <;> rw [Str.length_append] <;> omega
theorem agents_short {ags : List (List Bool × Bool)} (hab : ∀ a ∈ ags, 1 ≤ a.1.length ∧ a.1.length ≤ 3) : ∀ x ∈ (List.take 1 (ags.map agText) ++ Str.ofString "*" :: List.drop 1 (ags.map agText)), x.length ≤ 100000 := by
  have key : ∀ x ∈ ags.map agText, x.length ≤ 100000 := fun x hx => by
    obtain ⟨a, ha, e⟩ := List.mem_map.mp hx
    rw [← e]; exact Nat.le_trans (agText_len (hab a ha).2) (by omega)
  intro x hx
  rcases List.mem_append.mp hx with h | h
  · exact key x (List.mem_of_mem_take h)
  · rcases List.mem_cons.mp h with h | h
    · subst h; exact Nat.le_trans (show (Str.ofString "*").length ≤ 1 by decide) (by omega)
    · exact key x (List.mem_of_mem_drop h)
theorem pow_small {i : Nat} (h : i < 6) : 2 ^ i ≤ 32 := by
  have : i = 0 ∨ i = 1 ∨ i = 2 ∨ i = 3 ∨ i = 4 ∨ i = 5 := by omega
  rcases this with rfl | rfl | rfl | rfl | rfl | rfl <;> decide
def okV (sm : List Str) : Value → Bool
  | .str x _ => okD sm x
  | _ => false
def inV (sm : List Str) (x : Str) : Value → Bool
  | .int k _ => sm.any (· == Txt.slice x (some (-k)) none)
  | _ => false
theorem filter_empty {α : Type} (p : α → Bool) : ∀ l : List α, (l.filter p).isEmpty = !(l.any p)
  | [] => rfl
  | a :: l => by
    rw [List.filter_cons, List.any_cons]
    cases h : p a with
    | true => rfl
    | false => rw [if_neg (by simp)]; rw [filter_empty p l]; rfl
theorem not_list {sm : List Str} {x : Str} {vs ys : List Value} (hlen : vs.length = 3) (hi : ∀ (j : Nat) (v : Value), vs[j]? = some v → j < 3 ∧ ∃ t, v = .int (1 + (j : Int) * 1) t) (hP : Paired (fun v y => y = v) (vs.filter (inV sm x)) ys) : (!(!ys.toArray.isEmpty)) = okD sm x := by
  rw [paired_eq hP]
  rcases vs with _ | ⟨u1, _ | ⟨u2, _ | ⟨u3, _ | ⟨u4, r⟩⟩⟩⟩
  all_goals (first | (simp at hlen; done) | skip)
  · obtain ⟨_, t1, rfl⟩ := hi 0 u1 rfl
    obtain ⟨_, t2, rfl⟩ := hi 1 u2 rfl
    obtain ⟨_, t3, rfl⟩ := hi 2 u3 rfl
    have e1 : ((1 : Int) + ((0 : Nat) : Int) * 1) = 1 := by decide
    have e2 : ((1 : Int) + ((1 : Nat) : Int) * 1) = 2 := by decide
    have e3 : ((1 : Int) + ((2 : Nat) : Int) * 1) = 3 := by decide
    rw [e1, e2, e3]
    unfold okD
    simp only [List.isEmpty_toArray, Bool.not_not]
    rw [filter_empty]
    simp only [List.any_cons, List.any_nil, Bool.or_false, inV]
theorem ok_app {x y : Str} (hx : PyData.strOk x = true) (hy : PyData.strOk y = true) : PyData.strOk (x ++ y) = true := by
  show (x.cps ++ y.cps).all _ = true
  have h1 : (x.cps.all fun c => decide (c < 0x110000)) = true := hx
  have h2 : (y.cps.all fun c => decide (c < 0x110000)) = true := hy
  rw [Array.all_append, h1, h2]; rfl
theorem due_ok {sm : List Str} : ∀ {i : Nat} {x : Str}, x ∈ dueN sm i → PyData.strOk x = true
  | 0, x, h => by rw [List.mem_singleton.mp h]; decide +kernel
  | i + 1, x, h => by
    obtain ⟨y, hy, e⟩ := grow_mem (List.mem_filter.mp h).1
    have ih := due_ok hy
    rcases e with rfl | rfl
    · exact ok_app ih (by decide +kernel)
    · exact ok_app ih (by decide +kernel)
theorem grow_ok {sm : List Str} {i : Nat} {x : Str} (h : x ∈ grow (dueN sm i)) : PyData.strOk x = true := by
  obtain ⟨y, hy, e⟩ := grow_mem h
  have ih := due_ok hy
  rcases e with rfl | rfl
  · exact ok_app ih (by decide +kernel)
  · exact ok_app ih (by decide +kernel)
theorem grow_length {sm : List Str} {i : Nat} {x : Str} (h : x ∈ grow (dueN sm i)) : x.length = i + 1 := by
  obtain ⟨y, hy, e⟩ := grow_mem h
  have ih := due_mem hy
  have h1 : (Str.ofString "a").length = 1 := by decide
  have h2 : (Str.ofString "b").length = 1 := by decide
  rcases e with rfl | rfl <;> rw [Str.length_append] <;> omega
theorem dat_strs : ∀ {vs : List Value} {xs : List Str}, Strs vs xs → DatAll [] vs (xs.map Dat.str)
  | _, _, .nil => .nil
  | _, _, .cons x t h => .cons (.str x t) (dat_strs h)
theorem dat_ok {xs : List Str} (h : ∀ x ∈ xs, PyData.strOk x = true) : ∀ d ∈ xs.map Dat.str, kqdOk 8 d = true := fun d hd => by
  obtain ⟨x, hx, rfl⟩ := List.mem_map.mp hd
  exact h x hx
theorem strs_keep {ys : List Str} {vs : List Value} {xs : List Str} (h : Strs vs xs) : Strs (vs.filter (keepP ys)) (xs.filter fun x => !(ys.any (· == x))) := strs_filter (fun _ _ => rfl) h
section
variable {prog : Program} {w : World} {A : Around} {E : Value → Shared → Prop} {s : Shared} {h₀ : Heap} {L a b : Addr} {news : List (Addr × Obj)} {oa ob : Obj} {vs us : List Value} {ka kb : Nat} {xs : List Str} {Q : Value → Shared → Prop}
open Classical in
theorem ne_same (N : News h₀ L s.heap news) (ma : (a, oa) ∈ news) (ca : oa.cls = .type "list") (da : oa.data = .seq vs.toArray ka) (ha : Strs vs xs)
    (mb : (b, ob) ∈ news) (cb : ob.cls = .type "list") (db : ob.data = .seq us.toArray kb) (hb : Strs us xs) (hok : ∀ x ∈ xs, PyData.strOk x = true) (hu : A.units + 64 < cLine) (h : Q (.bool false) s) : wpAny (model prog w) A (compareOp .NotEq (.ref a) (.ref b)) Q E s :=
  kqd_ne (n₁ := []) (n₂ := []) N ma ca da (dat_strs ha) (by simp) mb cb db (dat_strs hb) (by simp) (dat_ok hok) (dat_ok hok) hu (by simpa using h)
open Classical in
theorem eq_none (N : News h₀ L s.heap news) (ma : (a, oa) ∈ news) (ca : oa.cls = .type "list") (da : oa.data = .seq vs.toArray ka) (ha : Strs vs xs)
    (mb : (b, ob) ∈ news) (cb : ob.cls = .type "list") (db : ob.data = .seq #[] kb) (hok : ∀ x ∈ xs, PyData.strOk x = true) (hu : A.units + 64 < cLine) (h : Q (.bool xs.isEmpty) s) : wpAny (model prog w) A (compareOp .Eq (.ref a) (.ref b)) Q E s :=
  kqd_eq (n₁ := []) (n₂ := []) (ds := xs.map Dat.str) (es := []) N ma ca da (dat_strs ha) (by simp) mb cb (ys := []) db .nil (by simp) (dat_ok hok) (by simp) hu (by
    have e : decide (xs.map Dat.str = []) = xs.isEmpty := by cases xs <;> simp
    rw [e]; exact h)
end
theorem map_end {m₀ : Str → Option Value} {a b a' b' : Value} {u v u' v' : Option Value} :
    (fun y => if y = Str.ofString "due" then some b' else if y = Str.ofString "grown" then v' else if y = Str.ofString "left" then some a' else if y = Str.ofString "size" then u' else mapN m₀ a b u v y) = mapN m₀ a' b' u' v' := by
  funext y
  show _ = if y = Str.ofString "left" then some a' else if y = Str.ofString "due" then some b' else if y = Str.ofString "size" then u' else if y = Str.ofString "grown" then v' else m₀ y
  by_cases h1 : y = Str.ofString "due"
  · subst h1; rw [if_pos rfl, if_neg (by decide), if_pos rfl]
  · rw [if_neg h1]
    by_cases h2 : y = Str.ofString "grown"
    · subst h2; rw [if_pos rfl, if_neg (by decide), if_neg (by decide), if_neg (by decide), if_pos rfl]
    · rw [if_neg h2]
      by_cases h3 : y = Str.ofString "left"
      · rw [if_pos h3, if_pos h3]
      · rw [if_neg h3, if_neg h3, if_neg h1]
        by_cases h4 : y = Str.ofString "size"
        · rw [if_pos h4, if_pos h4]
        · rw [if_neg h4, if_neg h4, if_neg h2]
          show (if y = Str.ofString "left" then some a else if y = Str.ofString "due" then some b else if y = Str.ofString "size" then u else if y = Str.ofString "grown" then v else m₀ y) = _
          rw [if_neg h3, if_neg h1, if_neg h4, if_neg h2]
theorem fresh_ne {h₀ h : Heap} {L D : Addr} {news : List (Addr × Obj)} (N : News h₀ L h news) (hn : h.get? D = none) {a : Addr} {o : Obj} (hp : (a, o) ∈ news) : D ≠ a := by
  rintro rfl
  have := (N _ hp).1
  rw [hn] at this; cases this
def rings6 : List Str := [Str.ofString "a", Str.ofString "b", Str.ofString "ab", Str.ofString "aab", Str.ofString "abb", Str.ofString "aabb"]
theorem rings_len : ∀ x ∈ rings6, x.length ≤ 10 := by decide +kernel
theorem map_of {f : Str → Str} : ∀ {vs ys : List Value} {xs : List Str}, Strs vs xs → Paired (fun v y => ∃ (x : Str) (t t' : Tok), v = .str x t ∧ y = .str (f x) t') vs ys → Strs ys (xs.map f)
  | _, _, _, .nil, .nil => .nil
  | _, _, _, .cons x t h, .cons ⟨x', t1, t2, e, e2⟩ hp => by
    cases e; subst e2
    exact .cons _ t2 (map_of h hp)
def rings8 : List Str := rings6.map fun x => Txt.mul x 8
theorem rings8_len : ∀ x ∈ rings8, x.length ≤ 1000 := by decide +kernel
theorem rings8_ok : ∀ x ∈ rings8, PyData.strOk x = true := by decide +kernel
end Mine
end
section
open PySem PySem.W PyProof.Rows
set_option maxRecDepth 100000
set_option maxHeartbeats 0
namespace Mine
def words : Nat → List (List Bool)
  | 0 => [[]]
  | n + 1 => (words n).flatMap fun w => [w ++ [false], w ++ [true]]
def W13 : List (List Bool) := words 1 ++ words 2 ++ words 3
def star (x : Str) : Str := x ++ Str.ofString "*"
def isIn (s : List Bool) : List Bool → Bool
  | [] => s.isEmpty
  | a :: l => s.isPrefixOf (a :: l) || isIn s l
def ringBits : List (List Bool) := [[false], [true], [false, true], [false, false, true], [false, true, true], [false, false, true, true]]
def r8 (r : List Bool) : List Bool := r ++ r ++ r ++ r ++ r ++ r ++ r ++ r
theorem mem_words : ∀ {n : Nat} {bs : List Bool}, bs.length = n → bs ∈ words n
  | 0, bs, h => by rw [List.length_eq_zero_iff.mp h]; exact .head _
  | n + 1, bs, h => by
    have hne : bs ≠ [] := by rintro rfl; simp at h
    refine List.mem_flatMap.mpr ⟨bs.dropLast, mem_words (by rw [List.length_dropLast, h]; rfl), ?_⟩
    have e := List.dropLast_concat_getLast hne
    generalize bs.getLast hne = c at e
    rw [← e, List.dropLast_concat]
    cases c
    · exact .head _
    · exact .tail _ (.head _)
theorem len_words : ∀ {n : Nat} {bs : List Bool}, bs ∈ words n → bs.length = n
  | 0, bs, h => by rw [List.mem_singleton.mp h]; rfl
  | n + 1, bs, h => by
    obtain ⟨w, hw, hb⟩ := List.mem_flatMap.mp h
    have := len_words hw
    simp only [List.mem_cons, List.not_mem_nil, or_false] at hb
    rcases hb with rfl | rfl <;> rw [List.length_append, this] <;> rfl
theorem mem13 {a : List Bool} (h1 : 1 ≤ a.length) (h3 : a.length ≤ 3) : a ∈ W13 := by
  have : a.length = 1 ∨ a.length = 2 ∨ a.length = 3 := by omega
  rcases this with h | h | h
  · exact List.mem_append_left _ (List.mem_append_left _ (mem_words h))
  · exact List.mem_append_left _ (List.mem_append_right _ (mem_words h))
  · exact List.mem_append_right _ (mem_words h)
theorem low_1 : (words 1).all (fun bs => Txt.lower (headPart (ask (wordText bs))) == star (wordText bs)) = true := by decide +kernel
theorem low_2 : (words 2).all (fun bs => Txt.lower (headPart (ask (wordText bs))) == star (wordText bs)) = true := by decide +kernel
theorem low_3 : (words 3).all (fun bs => Txt.lower (headPart (ask (wordText bs))) == star (wordText bs)) = true := by decide +kernel
theorem low_4 : (words 4).all (fun bs => Txt.lower (headPart (ask (wordText bs))) == star (wordText bs)) = true := by decide +kernel
theorem low_5 : (words 5).all (fun bs => Txt.lower (headPart (ask (wordText bs))) == star (wordText bs)) = true := by decide +kernel
theorem low_6 : (words 6).all (fun bs => Txt.lower (headPart (ask (wordText bs))) == star (wordText bs)) = true := by decide +kernel
theorem low_r : ringBits.all (fun r => Txt.lower (headPart (ask (wordText (r8 r)))) == star (wordText (r8 r))) = true := by decide +kernel
theorem ring_text : rings8 = ringBits.map fun r => wordText (r8 r) := by decide +kernel
theorem ag_low : W13.all (fun a => [false, true].all fun up => Txt.lower (agentText a up) == wordText a && !(agentText a up == Str.ofString "*")) = true := by decide +kernel
theorem in_1 : (words 1).all (fun bs => W13.all fun a => hasIn (star (wordText bs)) (wordText a) == isIn a bs) = true := by decide +kernel
theorem in_2 : (words 2).all (fun bs => W13.all fun a => hasIn (star (wordText bs)) (wordText a) == isIn a bs) = true := by decide +kernel
theorem in_3 : (words 3).all (fun bs => W13.all fun a => hasIn (star (wordText bs)) (wordText a) == isIn a bs) = true := by decide +kernel
theorem in_4 : (words 4).all (fun bs => W13.all fun a => hasIn (star (wordText bs)) (wordText a) == isIn a bs) = true := by decide +kernel
theorem in_5 : (words 5).all (fun bs => W13.all fun a => hasIn (star (wordText bs)) (wordText a) == isIn a bs) = true := by decide +kernel
theorem in_6 : (words 6).all (fun bs => W13.all fun a => hasIn (star (wordText bs)) (wordText a) == isIn a bs) = true := by decide +kernel
theorem in_r : ringBits.all (fun r => W13.all fun a => hasIn (star (wordText (r8 r))) (wordText a) == isIn a (r8 r)) = true := by decide +kernel
theorem sl_1 : (words 1).all (fun bs => [1, 2, 3].all fun k => Txt.slice (wordText bs) (some (-(k : Nat))) none == wordText (bs.drop (bs.length - k))) = true := by decide +kernel
theorem sl_2 : (words 2).all (fun bs => [1, 2, 3].all fun k => Txt.slice (wordText bs) (some (-(k : Nat))) none == wordText (bs.drop (bs.length - k))) = true := by decide +kernel
theorem sl_3 : (words 3).all (fun bs => [1, 2, 3].all fun k => Txt.slice (wordText bs) (some (-(k : Nat))) none == wordText (bs.drop (bs.length - k))) = true := by decide +kernel
theorem sl_4 : (words 4).all (fun bs => [1, 2, 3].all fun k => Txt.slice (wordText bs) (some (-(k : Nat))) none == wordText (bs.drop (bs.length - k))) = true := by decide +kernel
theorem sl_5 : (words 5).all (fun bs => [1, 2, 3].all fun k => Txt.slice (wordText bs) (some (-(k : Nat))) none == wordText (bs.drop (bs.length - k))) = true := by decide +kernel
theorem sl_6 : (words 6).all (fun bs => [1, 2, 3].all fun k => Txt.slice (wordText bs) (some (-(k : Nat))) none == wordText (bs.drop (bs.length - k))) = true := by decide +kernel
theorem inj13 : W13.all (fun a => W13.all fun b => (wordText a == wordText b) == (a == b)) = true := by decide +kernel
theorem snoc_1 : (words 0 ++ words 1 ++ words 2 ++ words 3 ++ words 4 ++ words 5).all (fun w => wordText (w ++ [false]) == wordText w ++ Str.ofString "a" && wordText (w ++ [true]) == wordText w ++ Str.ofString "b") = true := by decide +kernel
theorem step_n : (words 1 ++ words 2 ++ words 3 ++ words 4 ++ words 5 ++ words 6).all (fun bs => W13.all fun s => isIn s bs == (isIn s bs.dropLast || [1, 2, 3].any fun k => s == bs.drop (bs.length - k))) = true := by decide +kernel
def facs : List Bool → List (List Bool)
  | a :: b :: c :: r => [a, b, c] :: facs (b :: c :: r)
  | _ => []
theorem fac_6 : (words 6 ++ ringBits.map r8).all (fun bs => W13.all fun s => isIn s bs == (facs bs).any (isIn s)) = true := by decide +kernel
theorem fac_3 : (words 6 ++ ringBits.map r8).all (fun bs => (facs bs).all fun f => (words 3).contains f) = true := by decide +kernel
def tab (b0 b1 b2 b3 b4 b5 b6 b7 : Bool) : List Bool → Bool
  | [false, false, false] => b0
  | [false, false, true] => b1
  | [false, true, false] => b2
  | [false, true, true] => b3
  | [true, false, false] => b4
  | [true, false, true] => b5
  | [true, true, false] => b6
  | [true, true, true] => b7
  | _ => false
theorem tabs : ∀ b0 b1 b2 b3 b4 b5 b6 b7 : Bool, ((words 6).all fun bs => (facs bs).any (tab b0 b1 b2 b3 b4 b5 b6 b7)) = (ringBits.map r8).all fun bs => (facs bs).any (tab b0 b1 b2 b3 b4 b5 b6 b7) := by decide +kernel
end Mine
end
section
open PySem PySem.W PyProof.Rows
set_option maxRecDepth 100000
set_option maxHeartbeats 0
namespace Mine
theorem of_all {α : Type} {l : List α} {p : α → Bool} (h : l.all p = true) {a : α} (ha : a ∈ l) : p a = true := List.all_eq_true.mp h a ha
theorem split6 {P : List Bool → Prop} (h1 : ∀ bs ∈ words 1, P bs) (h2 : ∀ bs ∈ words 2, P bs) (h3 : ∀ bs ∈ words 3, P bs) (h4 : ∀ bs ∈ words 4, P bs) (h5 : ∀ bs ∈ words 5, P bs) (h6 : ∀ bs ∈ words 6, P bs) {n : Nat} (hn1 : 1 ≤ n) (hn6 : n ≤ 6) {bs : List Bool} (h : bs ∈ words n) : P bs := by
  have : n = 1 ∨ n = 2 ∨ n = 3 ∨ n = 4 ∨ n = 5 ∨ n = 6 := by omega
  rcases this with rfl | rfl | rfl | rfl | rfl | rfl
  · exact h1 _ h
  · exact h2 _ h
  · exact h3 _ h
  · exact h4 _ h
  · exact h5 _ h
  · exact h6 _ h
theorem low_n {n : Nat} (h1 : 1 ≤ n) (h6 : n ≤ 6) {bs : List Bool} (h : bs ∈ words n) : Txt.lower (headPart (ask (wordText bs))) = star (wordText bs) :=
  split6 (P := fun bs => Txt.lower (headPart (ask (wordText bs))) = star (wordText bs)) (fun _ h => eq_of_beq (of_all low_1 h)) (fun _ h => eq_of_beq (of_all low_2 h)) (fun _ h => eq_of_beq (of_all low_3 h)) (fun _ h => eq_of_beq (of_all low_4 h)) (fun _ h => eq_of_beq (of_all low_5 h)) (fun _ h => eq_of_beq (of_all low_6 h)) h1 h6 h
theorem in_n {n : Nat} (h1 : 1 ≤ n) (h6 : n ≤ 6) {bs : List Bool} (h : bs ∈ words n) {a : List Bool} (ha : a ∈ W13) : hasIn (star (wordText bs)) (wordText a) = isIn a bs :=
  split6 (P := fun bs => hasIn (star (wordText bs)) (wordText a) = isIn a bs) (fun _ h => eq_of_beq (of_all (of_all in_1 h) ha)) (fun _ h => eq_of_beq (of_all (of_all in_2 h) ha)) (fun _ h => eq_of_beq (of_all (of_all in_3 h) ha)) (fun _ h => eq_of_beq (of_all (of_all in_4 h) ha)) (fun _ h => eq_of_beq (of_all (of_all in_5 h) ha)) (fun _ h => eq_of_beq (of_all (of_all in_6 h) ha)) h1 h6 h
theorem sl_n {n : Nat} (h1 : 1 ≤ n) (h6 : n ≤ 6) {bs : List Bool} (h : bs ∈ words n) {k : Nat} (hk : k ∈ [1, 2, 3]) : Txt.slice (wordText bs) (some (-(k : Nat))) none = wordText (bs.drop (bs.length - k)) :=
  split6 (P := fun bs => Txt.slice (wordText bs) (some (-(k : Nat))) none = wordText (bs.drop (bs.length - k))) (fun _ h => eq_of_beq (of_all (of_all sl_1 h) hk)) (fun _ h => eq_of_beq (of_all (of_all sl_2 h) hk)) (fun _ h => eq_of_beq (of_all (of_all sl_3 h) hk)) (fun _ h => eq_of_beq (of_all (of_all sl_4 h) hk)) (fun _ h => eq_of_beq (of_all (of_all sl_5 h) hk)) (fun _ h => eq_of_beq (of_all (of_all sl_6 h) hk)) h1 h6 h
theorem step6 {n : Nat} (h1 : 1 ≤ n) (h6 : n ≤ 6) {bs : List Bool} (h : bs ∈ words n) {s : List Bool} (hs : s ∈ W13) : isIn s bs = (isIn s bs.dropLast || [1, 2, 3].any fun k => s == bs.drop (bs.length - k)) := by
  have hm : bs ∈ words 1 ++ words 2 ++ words 3 ++ words 4 ++ words 5 ++ words 6 := by
    have : n = 1 ∨ n = 2 ∨ n = 3 ∨ n = 4 ∨ n = 5 ∨ n = 6 := by omega
    simp only [List.mem_append]
    rcases this with rfl | rfl | rfl | rfl | rfl | rfl <;> simp [h]
  exact eq_of_beq (of_all (of_all step_n hm) hs)
theorem snoc6 {n : Nat} (h5 : n ≤ 5) {w : List Bool} (h : w ∈ words n) : wordText w ++ Str.ofString "a" = wordText (w ++ [false]) ∧ wordText w ++ Str.ofString "b" = wordText (w ++ [true]) := by
  have hm : w ∈ words 0 ++ words 1 ++ words 2 ++ words 3 ++ words 4 ++ words 5 := by
    have : n = 0 ∨ n = 1 ∨ n = 2 ∨ n = 3 ∨ n = 4 ∨ n = 5 := by omega
    simp only [List.mem_append]
    rcases this with rfl | rfl | rfl | rfl | rfl | rfl <;> simp [h]
  have := of_all snoc_1 hm
  rw [Bool.and_eq_true] at this
  exact ⟨(eq_of_beq this.1).symm, (eq_of_beq this.2).symm⟩
theorem ag_facts {a : List Bool × Bool} (h1 : 1 ≤ a.1.length) (h3 : a.1.length ≤ 3) : Txt.lower (agText a) = wordText a.1 ∧ (agText a == Str.ofString "*") = false := by
  have hu : a.2 ∈ [false, true] := by cases a.2 <;> simp
  have := of_all (of_all ag_low (mem13 h1 h3)) hu
  rw [Bool.and_eq_true] at this
  refine ⟨eq_of_beq this.1, ?_⟩
  have h2 := this.2
  rwa [Bool.not_eq_true'] at h2
section
variable {ags : List (List Bool × Bool)}
def Bnd (ags : List (List Bool × Bool)) : Prop := ∀ a ∈ ags, 1 ≤ a.1.length ∧ a.1.length ≤ 3
theorem any_perm {α : Type} {p : α → Bool} {z : α} (hz : p z = false) (l : List α) : (List.take 1 l ++ z :: List.drop 1 l).any p = l.any p := by
  rw [List.any_append, List.any_cons, hz, Bool.false_or, ← List.any_append, List.take_append_drop]
def axsOf (ags : List (List Bool × Bool)) : List Str := List.take 1 (ags.map agText) ++ Str.ofString "*" :: List.drop 1 (ags.map agText)
def anyIn (ags : List (List Bool × Bool)) (bs : List Bool) : Bool := ags.any fun a => isIn a.1 bs
theorem hits_star (u : Str) : hits u (Str.ofString "*") = false := by unfold hits; simp
theorem any_congr {α : Type} {l : List α} {p q : α → Bool} (h : ∀ a ∈ l, p a = q a) : l.any p = l.any q := by
  induction l with
  | nil => rfl
  | cons a l ih => rw [List.any_cons, List.any_cons, h a (.head _), ih fun b hb => h b (.tail _ hb)]
theorem askP_bits (hab : Bnd ags) {x : Str} {bs : List Bool} (h1 : Txt.lower (headPart (ask x)) = star (wordText bs)) (h2 : ∀ a ∈ W13, hasIn (star (wordText bs)) (wordText a) = isIn a bs) : askP (axsOf ags) x = anyIn ags bs := by
  unfold askP axsOf
  rw [any_perm (hits_star _), List.any_map]
  refine any_congr fun a ha => ?_
  obtain ⟨e1, e2⟩ := ag_facts (hab a ha).1 (hab a ha).2
  show hits (ask x) (agText a) = _
  unfold hits
  rw [e2, h1, e1, h2 _ (mem13 (hab a ha).1 (hab a ha).2)]
  rfl
theorem askP_word (hab : Bnd ags) {n : Nat} (h1 : 1 ≤ n) (h6 : n ≤ 6) {bs : List Bool} (h : bs ∈ words n) : askP (axsOf ags) (wordText bs) = anyIn ags bs :=
  askP_bits hab (low_n h1 h6 h) fun a ha => in_n h1 h6 h ha
theorem askP_ring (hab : Bnd ags) {r : List Bool} (h : r ∈ ringBits) : askP (axsOf ags) (wordText (r8 r)) = anyIn ags (r8 r) :=
  askP_bits hab (eq_of_beq (of_all low_r h)) fun a ha => eq_of_beq (of_all (of_all in_r h) ha)
def okB (ags : List (List Bool × Bool)) (bs : List Bool) : Bool := !([1, 2, 3].any fun k => ags.any fun a => a.1 == bs.drop (bs.length - k))
theorem w13_drop {n : Nat} (h1 : 1 ≤ n) {bs : List Bool} (h : bs ∈ words n) {k : Nat} (hk : k ∈ [1, 2, 3]) : bs.drop (bs.length - k) ∈ W13 := by
  have hl := len_words h
  have hk' : k = 1 ∨ k = 2 ∨ k = 3 := by simpa using hk
  refine mem13 ?_ ?_ <;> rw [List.length_drop] <;> omega
theorem okD_bits (hab : Bnd ags) {n : Nat} (h1 : 1 ≤ n) (h6 : n ≤ 6) {bs : List Bool} (h : bs ∈ words n) : okD (ags.map smText) (wordText bs) = okB ags bs := by
  have key : ∀ k : Nat, k ∈ [1, 2, 3] → ((ags.map smText).any (· == Txt.slice (wordText bs) (some (-(k : Int))) none)) = ags.any fun a => a.1 == bs.drop (bs.length - k) := by
    intro k hk
    rw [List.any_map]
    refine any_congr fun a ha => ?_
    obtain ⟨e1, _⟩ := ag_facts (hab a ha).1 (hab a ha).2
    show (smText a == _) = _
    rw [sl_n h1 h6 h hk]
    show (Txt.lower (agText a) == _) = _
    rw [e1]
    exact eq_of_beq (of_all (of_all inj13 (mem13 (hab a ha).1 (hab a ha).2)) (w13_drop h1 h hk))
  have k1 := key 1 (by simp)
  have k2 := key 2 (by simp)
  have k3 := key 3 (by simp)
  unfold okD okB
  simp only [List.any_cons, List.any_nil, Bool.or_false]
  rw [← k1, ← k2, ← k3]
  rfl
theorem any_or {α : Type} {l : List α} {p q : α → Bool} : (l.any fun a => p a || q a) = (l.any p || l.any q) := by
  induction l with
  | nil => rfl
  | cons a l ih => rw [List.any_cons, List.any_cons, List.any_cons, ih]; cases p a <;> cases q a <;> cases l.any p <;> cases l.any q <;> rfl
theorem anyIn_step (hab : Bnd ags) {n : Nat} (h1 : 1 ≤ n) (h6 : n ≤ 6) {bs : List Bool} (h : bs ∈ words n) : anyIn ags bs = (anyIn ags bs.dropLast || !okB ags bs) := by
  unfold anyIn okB
  rw [Bool.not_not]
  have e : (ags.any fun a => isIn a.1 bs) = ags.any fun a => (isIn a.1 bs.dropLast || [1, 2, 3].any fun k => a.1 == bs.drop (bs.length - k)) :=
    any_congr fun a ha => step6 h1 h6 h (mem13 (hab a ha).1 (hab a ha).2)
  rw [e, any_or]
  congr 1
  simp only [List.any_cons, List.any_nil, Bool.or_false]
  rw [any_or, any_or]
def growB (xs : List (List Bool)) : List (List Bool) := xs.flatMap fun w => [w ++ [false], w ++ [true]]
def dueB (ags : List (List Bool × Bool)) : Nat → List (List Bool)
  | 0 => [[]]
  | n + 1 => (growB (dueB ags n)).filter (okB ags)
theorem growB_mem {xs : List (List Bool)} {bs : List Bool} (h : bs ∈ growB xs) : bs.dropLast ∈ xs := by
  obtain ⟨w, hw, hb⟩ := List.mem_flatMap.mp h
  simp only [List.mem_cons, List.not_mem_nil, or_false] at hb
  rcases hb with rfl | rfl <;> rw [List.dropLast_concat] <;> exact hw
theorem growB_words {xs : List (List Bool)} {n : Nat} (hx : ∀ w ∈ xs, w ∈ words n) : ∀ bs ∈ growB xs, bs ∈ words (n + 1) := fun bs h => by
  obtain ⟨w, hw, hb⟩ := List.mem_flatMap.mp h
  exact List.mem_flatMap.mpr ⟨w, hx w hw, hb⟩
theorem dueB_words : ∀ {n : Nat}, ∀ bs ∈ dueB ags n, bs ∈ words n
  | 0, bs, h => h
  | n + 1, bs, h => growB_words dueB_words _ (List.mem_filter.mp h).1
theorem dueB_none (hab : Bnd ags) : ∀ {n : Nat}, n ≤ 6 → ∀ bs ∈ dueB ags n, anyIn ags bs = false
  | 0, _, bs, h => by
    rw [List.mem_singleton.mp h]
    unfold anyIn
    rw [List.any_eq_false]
    intro a ha
    have := (hab a ha).1
    rcases a with ⟨_ | ⟨c, r⟩, up⟩
    · simp at this
    · simp [isIn]
  | n + 1, hn, bs, h => by
    obtain ⟨h1, h2⟩ := List.mem_filter.mp h
    rw [anyIn_step hab (by omega) hn (growB_words dueB_words _ h1), h2, dueB_none hab (by omega) _ (growB_mem h1)]
    rfl
theorem grow_map {xs : List (List Bool)} {n : Nat} (hn : n ≤ 5) (hx : ∀ w ∈ xs, w ∈ words n) : grow (xs.map wordText) = (growB xs).map wordText := by
  induction xs with
  | nil => rfl
  | cons w xs ih =>
    obtain ⟨e1, e2⟩ := snoc6 hn (hx w (.head _))
    show [wordText w ++ Str.ofString "a", wordText w ++ Str.ofString "b"] ++ grow (xs.map wordText) = ((w ++ [false]) :: (w ++ [true]) :: growB xs).map wordText
    rw [ih fun w hw => hx w (.tail _ hw), e1, e2]; rfl
theorem filter_map_congr {α β : Type} {f : α → β} {p : β → Bool} {q : α → Bool} : ∀ {l : List α}, (∀ a ∈ l, p (f a) = q a) → (l.map f).filter p = (l.filter q).map f
  | [], _ => rfl
  | a :: l, h => by
    have ih := filter_map_congr fun b hb => h b (.tail _ hb)
    rw [List.map_cons, List.filter_cons, List.filter_cons, h a (.head _), ih]
    cases q a <;> rfl
theorem due_bits (hab : Bnd ags) : ∀ {n : Nat}, n ≤ 6 → dueN (ags.map smText) n = (dueB ags n).map wordText
  | 0, _ => by show [Str.ofString ""] = [wordText []]; decide +kernel
  | n + 1, hn => by
    show (grow (dueN (ags.map smText) n)).filter (okD (ags.map smText)) = ((growB (dueB ags n)).filter (okB ags)).map wordText
    rw [due_bits hab (by omega), grow_map (by omega) dueB_words]
    exact filter_map_congr fun bs h => okD_bits hab (by omega) hn (growB_words dueB_words _ h)
theorem filt_not {xs : List Str} {p : Str → Bool} : (xs.filter fun x => !((xs.filter p).any (· == x))) = xs.filter fun x => !(p x) := by
  refine List.filter_congr fun x hx => ?_
  congr 1
  cases hp : p x with
  | true => exact List.any_eq_true.mpr ⟨x, List.mem_filter.mpr ⟨hx, hp⟩, beq_self_eq_true x⟩
  | false =>
    rw [List.any_eq_false]
    intro y hy e
    rw [eq_of_beq e] at hy
    have := (List.mem_filter.mp hy).2
    rw [hp] at this; cases this
theorem law_turn (hab : Bnd ags) {i : Nat} (hi : i < 6) :
    ((grow (dueN (ags.map smText) i)).filter fun x => !(((grow (dueN (ags.map smText) i)).filter (askP (axsOf ags))).any (· == x))) = dueN (ags.map smText) (i + 1) := by
  rw [filt_not, due_bits hab (by omega), due_bits hab hi, grow_map (by omega) dueB_words]
  show _ = ((growB (dueB ags i)).filter (okB ags)).map wordText
  refine filter_map_congr fun bs h => ?_
  have hw := growB_words dueB_words _ h
  rw [askP_word hab (by omega) hi hw, anyIn_step hab (by omega) hi hw, dueB_none hab (by omega) _ (growB_mem h)]
  simp
theorem dueB_mem (hab : Bnd ags) : ∀ {n : Nat}, n ≤ 6 → ∀ bs ∈ words n, anyIn ags bs = false → bs ∈ dueB ags n
  | 0, _, bs, h, _ => h
  | n + 1, hn, bs, h, ha => by
    have st := anyIn_step hab (by omega) hn h
    rw [ha] at st
    have st2 := Bool.or_eq_false_iff.mp st.symm
    have h1 : anyIn ags bs.dropLast = false := st2.1
    have h2 : okB ags bs = true := by have := st2.2; rwa [Bool.not_eq_false'] at this
    obtain ⟨w, hw, hb⟩ := List.mem_flatMap.mp h
    have e : bs.dropLast = w := by
      simp only [List.mem_cons, List.not_mem_nil, or_false] at hb
      rcases hb with rfl | rfl <;> rw [List.dropLast_concat]
    rw [e] at h1
    exact List.mem_filter.mpr ⟨List.mem_flatMap.mpr ⟨w, dueB_mem hab (by omega) w hw h1, hb⟩, h2⟩
theorem dueB_empty (hab : Bnd ags) : (dueB ags 6).isEmpty = (words 6).all (anyIn ags) := by
  cases h : (words 6).all (anyIn ags) with
  | true =>
    rw [List.isEmpty_iff]
    refine List.eq_nil_iff_forall_not_mem.mpr fun bs hb => ?_
    have h1 := dueB_none hab (Nat.le_refl _) bs hb
    rw [of_all h (dueB_words _ hb)] at h1; cases h1
  | false =>
    obtain ⟨bs, hb, hn⟩ := List.all_eq_false.mp h
    have := dueB_mem hab (Nat.le_refl _) bs hb (by simpa using hn)
    cases q : dueB ags 6 with
    | nil => rw [q] at this; cases this
    | cons _ _ => rfl
theorem any_swap {α β : Type} {l : List α} {m : List β} {p : α → β → Bool} : (l.any fun a => m.any fun b => p a b) = m.any fun b => l.any fun a => p a b := by
  induction l with
  | nil => induction m with
    | nil => rfl
    | cons b m ih => rw [List.any_cons, ← ih]; rfl
  | cons a l ih =>
    rw [List.any_cons, ih]
    rw [← any_or]
    rfl
theorem anyIn_facs (hab : Bnd ags) {bs : List Bool} (h : bs ∈ words 6 ++ ringBits.map r8) : anyIn ags bs = (facs bs).any (anyIn ags) := by
  unfold anyIn
  rw [← any_swap]
  exact any_congr fun a ha => eq_of_beq (of_all (of_all fac_6 h) (mem13 (hab a ha).1 (hab a ha).2))
theorem tab_eq (t : List Bool → Bool) : ∀ f ∈ words 3, tab (t [false, false, false]) (t [false, false, true]) (t [false, true, false]) (t [false, true, true]) (t [true, false, false]) (t [true, false, true]) (t [true, true, false]) (t [true, true, true]) f = t f := by
  intro f hf
  have hl := len_words hf
  rcases f with _ | ⟨a, _ | ⟨b, _ | ⟨c, _ | ⟨d, r⟩⟩⟩⟩
  all_goals (first | (simp at hl; done) | skip)
  cases a <;> cases b <;> cases c <;> rfl
theorem tabs_any (t : List Bool → Bool) : ((words 6).all fun bs => (facs bs).any t) = (ringBits.map r8).all fun bs => (facs bs).any t := by
  have key : ∀ bs ∈ words 6 ++ ringBits.map r8, (facs bs).any t = (facs bs).any (tab (t [false, false, false]) (t [false, false, true]) (t [false, true, false]) (t [false, true, true]) (t [true, false, false]) (t [true, false, true]) (t [true, true, false]) (t [true, true, true])) := fun bs h =>
    any_congr fun f hf => (tab_eq t f (List.contains_iff_mem.mp (of_all (of_all fac_3 h) hf))).symm
  have all_congr : ∀ {l : List (List Bool)} {p q : List Bool → Bool}, (∀ a ∈ l, p a = q a) → l.all p = l.all q := by
    intro l p q h
    induction l with
    | nil => rfl
    | cons a l ih => rw [List.all_cons, List.all_cons, h a (.head _), ih fun b hb => h b (.tail _ hb)]
  rw [all_congr fun bs h => key bs (List.mem_append_left _ h), all_congr fun bs h => key bs (List.mem_append_right _ h)]
  exact tabs _ _ _ _ _ _ _ _
theorem all_congr' {α : Type} {l : List α} {p q : α → Bool} (h : ∀ a ∈ l, p a = q a) : l.all p = l.all q := by
  induction l with
  | nil => rfl
  | cons a l ih => rw [List.all_cons, List.all_cons, h a (.head _), ih fun b hb => h b (.tail _ hb)]
theorem filter_none {α : Type} {p : α → Bool} : ∀ {l : List α}, (l.filter fun a => !(p a)).isEmpty = l.all p
  | [] => rfl
  | a :: l => by
    rw [List.filter_cons, List.all_cons]
    cases h : p a with
    | true => simpa using filter_none (p := p) (l := l)
    | false => rfl
theorem law_end (hab : Bnd ags) : ((dueN (ags.map smText) 6).isEmpty == (rings8.filter fun x => !((rings8.filter (askP (axsOf ags))).any (· == x))).isEmpty) = true := by
  have e1 : (dueN (ags.map smText) 6).isEmpty = (words 6).all (anyIn ags) := by
    rw [due_bits hab (Nat.le_refl _), List.isEmpty_map]; exact dueB_empty hab
  have e2 : (rings8.filter fun x => !((rings8.filter (askP (axsOf ags))).any (· == x))).isEmpty = (ringBits.map r8).all (anyIn ags) := by
    rw [filt_not, filter_none, ring_text, List.all_map, List.all_map]
    exact all_congr' fun r hr => askP_ring hab hr
  have e3 : (words 6).all (anyIn ags) = (ringBits.map r8).all (anyIn ags) := by
    rw [all_congr' fun bs h => anyIn_facs hab (List.mem_append_left _ h), all_congr' (l := ringBits.map r8) fun bs h => anyIn_facs hab (List.mem_append_right _ h)]
    exact tabs_any _
  rw [e1, e2, e3]
  exact beq_self_eq_true _
end
end Mine
end
section
open PySem PySem.W PyProof.Rows PySem.Calls Mine
set_option maxRecDepth 100000
set_option maxHeartbeats 0
local macro_rules | `(tactic| k_room) => `(tactic| ktr_room)
local macro_rules | `(tactic| walk_at "exec Assign cons ListComp") => `(tactic| (k_here; refine hold_ ?_))
local macro_rules | `(tactic| walk_at "eval ListComp") => `(tactic| (k_here; refine hold_ ?_))
local macro_rules | `(tactic| walk_at "pyIter ref") => `(tactic| (k_here; refine hold_ ?_))
local macro_rules | `(tactic| walk_at "call ref") => `(tactic| (k_here; refine hold_ ?_))
local macro_rules | `(tactic| walk_at "subscriptTail Name Slice str ref") => `(tactic| ((with_reducible show wpAny _ _ (subscriptTail _ (Expr.Slice (some _) none none _) _ _) _ _ _); (with_reducible rename InElt _ _ => kE'); (refine slice_keep_sn (s := ⟨_, _, _, _, _⟩) (by assumption) (by assumption) kE' ?_); clear kE'; intro _ _ _ F' N' kE' _))
local macro_rules | `(tactic| walk_at "compareOp NotEq ref ref") => `(tactic| (k_here; refine hold_ ?_))
local macro_rules | `(tactic| walk_at "compareOp Eq ref ref") => `(tactic| (k_here; refine hold_ ?_))
theorem PySem.Challenge.cw_ij0195_03_holds : PySem.Challenge.rw_ij0195_03.Holds := by
  refine Mine.hd ?_
  w_strict (
   k_go0; (all_goals try k_fold); k_steps
   refine of_hold ?_
   refine comp_use (by with_unfolding_all rfl) (by with_unfolding_all rfl) (by decide) (by rfl) (by decide) (by rfl) (by rfl) (by rfl) ?_
   k_steps
   with_reducible rename IntsAre _ (List.take 3 _ ++ _) => hIa
   with_reducible rename List Int => ns
   with_reducible rename Below callerA _ _ _ => K0
   with_reducible rename News _ _ _ _ => N1
   with_reducible rename Fr _ _ _ _ => F1
   with_reducible rename IntsAre _ ns => hIs
   have hn4 : (List.take 3 ns ++ [ns.sum + 10]).length ≤ 4 := by rw [List.length_append, List.length_singleton]; exact Nat.succ_le_succ (List.length_take_le _ _)
   refine ⟨_, _, _, _, _, _, fun _ => true, fun _ y => ∃ (bs : List Bool) (up : Bool) (t : Tok), 1 ≤ bs.length ∧ bs.length ≤ 3 ∧ y = .str (agentText bs up) t, src_list (vs := _) rfl (by is_list), ?hz, rfl, (by k_asm), (by k_asm), ⟨?ht, ?he⟩, ?hd⟩
   (case hz => rw [sizeLine_eq, hIa.length]; omega)
   (case ht => exact fun i v C oC m₂ s₃ E' hv hC hm F3 N3 hlt => wpAny_tests_nil ⟨rfl, _, _, rfl, fun b o e => e⟩)
   (case he =>
     intro i v C oC m₂ s₃ E' hv hp hC hm F3 N3 hlt
     obtain ⟨n, t, hx, e⟩ := ints_get hIa hv
     subst e
     k_steps
     refine of_hold ?_
     with_unfolding_all refine' agent_c ?j1 ?j2 ?j3 ?j4 ?j5 ?j6 ?j7 ?_
     (case j1 => exact K0)
     (case j2 => k_asm)
     (case j3 => k_asm)
     (case j4 => k_asm)
     (case j5 => exact rfl)
     (case j6 => ktr_room)
     (case j7 => ktr_units)
     intro bs up t' h' tk' hb1 hb3 hst
     k_steps
     all_goals first | exact hb1 | exact hb3 | exact ⟨_, _, rfl, hst⟩)
   (case hd =>
     intro D h2 tk2 ys hys F2 N2 hD hDn hst
     obtain ⟨vs', hlen, hitems, hP⟩ := hys
     obtain ⟨c, hDo⟩ := hD
     have N3 := news_add F1 N2 hDo hDn
     obtain ⟨ags, hal, hag, hab⟩ := agents_of hP
     have hyl : ys.length ≤ 4 := by
       have e1 := hP.length
       have e2 : (vs'.filter fun _ => true).length ≤ vs'.length := List.length_filter_le _ _
       have e3 := hIa.length
       omega
     clear hP hitems hlen hst
     with_reducible rename CellsAre _ _ _ => Y0
     have N4 := news_sub (news' := [(D, lstObj ys.toArray c), _]) N3 (fun p hp => by
       rcases List.mem_cons.mp hp with rfl | hp
       · exact .head _
       · rw [List.mem_singleton.mp hp]; exact .tail _ (.tail _ (.tail _ (.tail _ (.head _)))))
     clear N1 N2 N3 F1 hDo
     k_steps
     refine of_hold ?_
     refine wpAny_Assign_Name ?_
     refine comp_at (by with_unfolding_all rfl) (by decide) (by rfl) (by decide) (by rfl) ?_
     k_steps
     refine ⟨_, _, _, _, _, _, fun _ => true, fun v y => ∃ (x : Str) (t t' : Tok), v = .str x t ∧ y = .str (Txt.lower x) t', src_list (vs := ys) rfl (by is_list), by rw [sizeLine_eq]; omega, (by k_asm), (by k_asm), ?htb, ?heb, ?hdb⟩
     (case htb => exact fun i v C oC m₂ s₃ E' hv hC hm F3 N3 hlt => wpAny_tests_nil ⟨rfl, _, _, rfl, fun b o e => e⟩)
     (case heb =>
       intro i v C oC m₂ s₃ E' hv hp hC hm F3 N3 hlt
       obtain ⟨x, t, hx, e⟩ := strs_get hag hv
       subst e
       have hx9 : x.length ≤ 9 := by
         obtain ⟨a, ha, e⟩ := List.mem_map.mp (List.mem_of_getElem? hx)
         rw [← e]; exact agText_len (hab a ha).2
       k_steps
       exact ⟨_, _, rfl, fun b o e => e⟩)
     (case hdb =>
       intro D2 h3 tk3 vs3 ys3 hlen3 hitems3 F3 N3 hD3 hDn3 hst3 hP3
       obtain rfl := items_eq hlen3 hitems3
       rw [List.filter_eq_self.mpr (fun _ _ => rfl)] at hP3
       have hsm := small_of hag hP3
       obtain ⟨c2, hDo3⟩ := hD3
       have N5 := news_add F2 N3 hDo3 hDn3
       have hsl := strs_length hsm
       rw [List.length_map, hal] at hsl
       clear hP3 hst3 hitems3 hlen3
       (try dsimp only)
       k_steps
       refine of_hold ?_
       with_unfolding_all refine' record_c ?j1 ?j2 ?j3 ?j4 ?j5 ?j6 ?j7 ?j8 hag ?j9 ?_
       (case j1 => exact K0)
       (case j2 => k_asm)
       (case j3 => k_asm)
       (case j4 => k_asm)
       (case j5 => exact rfl)
       (case j6 => ktr_room)
       (case j7 => ktr_units)
       (case j8 => is_list)
       (case j9 => omega)
       intro one d l es n c3 avs h4 tk4 hav hgu hga hst4 ho1 hd1 hl1 hn1 hn2 hn3
       with_reducible rename Fr _ _ _ _ => F6
       with_reducible rename News _ _ _ _ => N5
       have F7 := F6.keeps hst4
       have N7 := news_add F6 (news_add F6 (news_add F6 (N5.grown hst4) hl1 hn3) hd1 hn2) ho1 hn1
       simp only [List.cons_append, List.nil_append] at N7
       clear F6 N5 N4 N3 F2 hl1 hd1 ho1 hn1 hn2 hn3 hst4 hDn hDn3 hDo3
       (try dsimp only)
       k_steps
       refine of_hold ?_
       with_reducible rename Fr _ _ _ _ => F8
       with_reducible rename News _ _ _ _ => N8
       with_unfolding_all refine law_loop (P := fun i xs => xs = dueN (ags.map smText) i) (by rfl) (by assumption) F8 N8 swap_sub (by rfl) (by rfl) ?hs1 ?hs2 rfl ?turn ?done
       (case hs1 => exact .cons _ _ .nil)
       (case hs2 => exact .cons _ _ .nil)
       (case turn =>
        intro iT aT bT IT vsT usT xsT caT cbT uT vT tT hT tkT hiT hsT1 hsT2 hPT FT NT hIT
        (try dsimp only)
        k_steps
        refine of_hold ?_
        refine comp2_at (by with_unfolding_all rfl) (by decide) (by rfl) (by decide) (by rfl) (by rfl) (by decide) ?_
        k_steps
        refine ⟨_, _, _, _, _, _, fun v ws => ∃ (x : Str) (t : Tok), v = .str x t ∧ Strs ws [x ++ Str.ofString "a", x ++ Str.ofString "b"], src_list (vs := vsT) rfl (by is_list), ?hzb, (by k_asm), (by k_asm), ?hib, ?hdb⟩
        (case hzb =>
          have h1 := strs_length hsT1
          have h2 := due_len (sm := ags.map smText) (i := iT)
          have h3 := pow_small hiT
          rw [hPT] at h1; omega)
        (case hib =>
          intro i v C oC m₂ s₃ E' hv hC hm F3 N3 hlt
          obtain ⟨x, t, hx, e⟩ := strs_get hsT1 hv
          subst e
          have hx6 : x.length = iT := due_mem (hPT ▸ List.mem_of_getElem? hx)
          k_steps
          refine ⟨⟨_, _, rfl, fun b o e => e⟩, _, _, fun _ => true, fun u z => ∃ (y : Str) (t t' : Tok), u = .str y t ∧ z = .str (x ++ y) t', srcIn_str rfl (by decide +kernel), by decide +kernel, ?it, ?ie, ?iff⟩
          (case it => exact fun j u oC2 m5 s5 E5 hu hC5 hmx hmy F5 N5 => wpAny_tests_nil ⟨rfl, _, _, rfl, fun b o e => e⟩)
          (case ie =>
            intro j u oC2 m5 s5 E5 hu hpu hC5 hmx hmy F5 N5
            obtain ⟨b, tb, e, hb0, hb1, hj⟩ := sign_ab hu
            subst e
            have hy1 : (if b then Str.ofString "b" else Str.ofString "a").length = 1 := by cases b <;> decide
            k_steps
            exact ⟨_, _, rfl, fun b o e => e⟩)
          (case iff => exact fun vs2 ws h1 h2 h3 => ⟨x, t, rfl, letters_of h1 h2 (by rwa [List.filter_eq_self.mpr (fun _ _ => rfl)] at h3)⟩))
        (case hdb =>
          intro D4 h4 tk4 vs4 wss hlen hitems F4 N4 hD hDn hst hP
          obtain ⟨c4, hDo⟩ := hD
          obtain rfl := items_eq hlen hitems
          have hgr := grow_of hsT1 hP
          have hgl := strs_length hgr
          have hN4 := news_add FT N4 hDo hDn
          clear FT N4
          k_steps
          refine of_hold ?_
          with_unfolding_all refine' left_c ?j1 ?j2 ?j3 ?j4 ?j5 ?j6 ?j7 ?j8 hgu hga ?j9 hav ?j10 ?j11 hgr ?j12 ?j13 ?_
          (case j1 => exact K0)
          (case j2 => k_asm)
          (case j3 => k_asm)
          (case j4 => k_asm)
          (case j5 => exact rfl)
          (case j6 => ktr_room)
          (case j7 => ktr_units)
          (case j8 => exact ⟨News.get (by assumption) (by k_mem), rfl, rfl, News.get (by assumption) (by k_mem)⟩)
          (case j9 => is_list)
          (case j10 => exact agents_short hab)
          (case j11 => is_list)
          (case j12 => (intro x hx; (obtain ⟨y, hy, e⟩ := grow_mem hx); (have := due_mem (hPT ▸ hy)); (have h1 : (Str.ofString "a").length = 1 := by decide); (have h2 : (Str.ofString "b").length = 1 := by decide); (rcases e with rfl | rfl <;> rw [Str.length_append] <;> omega)))
          (case j13 => (rw [hgl, grow_len, hPT]; (have h2 := due_len (sm := ags.map smText) (i := iT)); (have h3 := pow_small hiT); omega))
          intro D5 c5 h5 tk5 hU hD5 hD5n
          with_reducible rename Fr _ _ _ _ => F6
          with_reducible rename News _ _ _ _ => N6
          have F7 := fr_up F6 hU
          have N7 := news_add F6 (news_up N6 hU) hD5 hD5n
          have hne5 : D5 ≠ IT := fresh_ne N6 hD5n (by (repeat' (first | exact List.Mem.head _ | refine List.Mem.tail _ ?_)))
          clear F6 N6 hU hD5n
          (try dsimp only)
          k_steps
          refine of_hold ?_
          refine comp2_use (by with_unfolding_all rfl) (by rfl) (by rfl) (by with_unfolding_all rfl) (by decide) (by rfl) (by decide) (by rfl) (by rfl) (by decide) ?_
          k_steps
          with_reducible rename Fr _ _ _ _ => F8
          with_reducible rename News _ _ _ _ => N8
          refine ⟨_, _, _, _, _, _, fun v ws => ∃ (x : Str) (t : Tok), v = .str x t ∧ Strs ws [x ++ Str.ofString "a", x ++ Str.ofString "b"], src_list (vs := usT) rfl (by is_list), ?hzc, rfl, (by k_asm), (by k_asm), ?hic, ?hdc⟩
          (case hzc =>
            have h1 := strs_length hsT2
            have h2 := due_len (sm := ags.map smText) (i := iT)
            have h3 := pow_small hiT
            rw [hPT] at h1; omega)
          (case hic =>
            intro i v C oC m₂ s₃ E' hv hC hm F3 N3 hlt
            obtain ⟨x, t, hx, e⟩ := strs_get hsT2 hv
            subst e
            have hx6 : x.length = iT := due_mem (hPT ▸ List.mem_of_getElem? hx)
            k_steps
            refine ⟨⟨_, _, rfl, fun b o e => e⟩, _, _, fun _ => true, fun u z => ∃ (y : Str) (t t' : Tok), u = .str y t ∧ z = .str (x ++ y) t', srcIn_str rfl (by decide +kernel), by decide +kernel, ?it, ?ie, ?iff⟩
            (case it => exact fun j u oC2 m5 s5 E5 hu hC5 hmx hmy F5 N5 => wpAny_tests_nil ⟨rfl, _, _, rfl, fun b o e => e⟩)
            (case ie =>
              intro j u oC2 m5 s5 E5 hu hpu hC5 hmx hmy F5 N5
              obtain ⟨b, tb, e, hb0, hb1, hj⟩ := sign_ab hu
              subst e
              have hy1 : (if b then Str.ofString "b" else Str.ofString "a").length = 1 := by cases b <;> decide
              k_steps
              exact ⟨_, _, rfl, fun b o e => e⟩)
            (case iff => exact fun vs2 ws h1 h2 h3 => ⟨x, t, rfl, letters_of h1 h2 (by rwa [List.filter_eq_self.mpr (fun _ _ => rfl)] at h3)⟩))
          (case hdc =>
            intro D6 h6 tk6 ys6 hys F9 N9 hD hDn hst
            obtain ⟨vs6, wss6, hlen, hitems, hP6, rfl⟩ := hys
            obtain ⟨c6, hDo⟩ := hD
            obtain rfl := items_eq hlen hitems
            have hgr6 := grow_of hsT2 hP6
            have hgl6 := strs_length hgr6
            have N10 := news_add F8 N9 hDo hDn
            clear F8 N8 N9 hP6 hst hDn hDo
            (try dsimp only)
            k_steps
            refine of_hold ?_
            refine cell_use (by with_unfolding_all rfl) (by with_unfolding_all rfl) (by intro _; rfl) (by intro _; rfl) (by rfl) (by decide) (by intro _; rfl) (by rfl) (by rfl) ?_
            k_steps
            with_reducible rename Fr _ _ _ _ => F10
            with_reducible rename News _ _ _ _ => N10
            refine ⟨_, _, _, _, _, _, okV (ags.map smText), fun v y => y = v, src_list (vs := wss6.flatten) rfl (by is_list), ?hze, rfl, (by k_asm), (by k_asm), ⟨?hte, ?hee⟩, ?hde⟩
            (case hze => (rw [sizeLine_eq, hgl6, grow_len, hPT]; (have h2 := due_len (sm := ags.map smText) (i := iT)); (have h3 := pow_small hiT); omega))
            (case hte =>
              intro i v C oC oK m₂ s₃ E' hv hC hoK F3 N3 hlt
              obtain ⟨x, t, hx, e⟩ := strs_get hgr6 hv
              subst e
              have hx7 : x.length = iT + 1 := grow_length (hPT ▸ List.mem_of_getElem? hx)
              refine wpAny_tests_one ?_
              k_steps
              refine of_hold ?_
              refine comp_at (by with_unfolding_all rfl) (by decide) (by rfl) (by decide) (by rfl) ?_
              k_steps
              with_reducible rename Fr _ _ _ _ => F11
              refine ⟨_, _, _, _, _, _, inV (ags.map smText) x, fun v y => y = v, src_range (n := 3) rfl (by assumption) (by decide) (by decide), by rw [sizeLine_eq]; omega, (by k_asm), (by k_asm), ?htf, ?hef, ?hdf⟩
              (case htf =>
                intro j u C2 oC2 m5 s5 E5 hu hC2 hm5 F5 N5 hlt5
                obtain ⟨hj, t5, e⟩ := hu
                subst e
                refine wpAny_tests_one ?_
                have : j = 0 ∨ j = 1 ∨ j = 2 := by omega
                rcases this with rfl | rfl | rfl
                all_goals (try simp only [Int.natCast_zero, Int.zero_mul, Int.add_zero, Int.natCast_one, Int.one_mul, Int.zero_add] at hm5)
                all_goals ((have cE5 := InElt.start s5.heap); k_steps; exact ⟨_, _, rfl, by assumption⟩))
              (case hef =>
                intro j u C2 oC2 m5 s5 E5 hu hpu hC2 hm5 F5 N5 hlt5
                k_steps
                exact ⟨_, _, rfl, fun b o e => e⟩)
              (case hdf =>
                intro D7 h7 tk7 vs7 ys7 hlen7 hitems7 F7 N7 hD7 hDn7 hst7 hP7
                have kE8 : InElt s₃.heap h7 := fun b o e => hst7 b o ((by assumption : ∀ b o, s₃.heap.get? b = some o → Heap.get? _ b = some o) b o e)
                refine wpAny_truthy_list (items := ys7.toArray) hD7.isList (by (have e1 := hP7.length); (have e2 : (vs7.filter (inV (ags.map smText) x)).length ≤ vs7.length := List.length_filter_le _ _); rw [List.size_toArray]; omega) ?_
                exact ⟨not_list hlen7 hitems7 hP7, _, _, rfl, kE8⟩))
            (case hee =>
              intro i v C oC oK m₂ s₃ E' hv hp hC hoK F3 N3 hlt
              k_steps
              exact ⟨_, _, rfl, fun b o e => e⟩)
            (case hde =>
              intro D8 h8 tk8 ys8 hys8 F12 N12 hD8 hDn8 hst8
              obtain ⟨vs8, hlen8, hitems8, hP8⟩ := hys8
              obtain ⟨c8, hDo8⟩ := hD8
              obtain rfl := items_eq hlen8 hitems8
              have e8 := paired_eq hP8
              subst e8
              have N13 := news_add F10 N12 hDo8 hDn8
              have hne8 : D8 ≠ IT := fresh_ne N10 hDn8 (by (repeat' (first | exact List.Mem.head _ | refine List.Mem.tail _ ?_)))
              have hdue := strs_filter (pv := okV (ags.map smText)) (q := okD (ags.map smText)) (fun _ _ => rfl) hgr6
              have hleft := strs_keep (ys := (grow xsT).filter (askP (List.take 1 (ags.map agText) ++ Str.ofString "*" :: List.drop 1 (ags.map agText)))) hgr
              have hlaw : ((grow xsT).filter fun x => !(((grow xsT).filter (askP (List.take 1 (ags.map agText) ++ Str.ofString "*" :: List.drop 1 (ags.map agText)))).any (· == x))) = dueN (ags.map smText) (iT + 1) := by rw [hPT]; exact law_turn hab hiT
              have hdue2 : ((grow xsT).filter (okD (ags.map smText))) = dueN (ags.map smText) (iT + 1) := by rw [hPT]; rfl
              rw [hlaw] at hleft
              rw [hdue2] at hdue
              clear F10 N10 N12 hP8 hst8 hDn8 hDo8
              (try dsimp only)
              k_steps
              refine of_hold ?_
              with_reducible rename Fr _ _ _ _ => F14
              with_reducible rename News _ _ _ _ => N14
              refine ne_same N14 (by k_mem) rfl rfl hleft (by k_mem) rfl rfl hdue (fun x hx => due_ok hx) (by ktr_units) ?_
              k_steps
              refine UnrEnd.intro F14 N14 _ ?sub ?off ⟨D5, D8, _, _, _, c5, c8, some (.int (1 + (iT : Int) * 1) tT), some (.ref D6), map_end, rfl, hleft, hdue, rfl⟩
              (case sub => (intro p hp; (repeat (rcases List.mem_cons.mp hp with hq | hp; · (subst hq; (repeat' (first | exact List.Mem.head _ | refine List.Mem.tail _ ?_))))); exact absurd hp List.not_mem_nil))
              (case off => (intro p hp; (rcases List.mem_cons.mp hp with hq | hp; · (subst hq; exact hne5)); (rcases List.mem_cons.mp hp with hq | hp; · (subst hq; exact hne8)); exact Nat.ne_of_lt (hIT p hp)))))))
       (case done =>
        intro aT bT vsT usT xsT caT cbT uT vT hT tkT hsT1 hsT2 hPT FT NT
        (try dsimp only)
        k_steps
        refine of_hold ?_
        refine comp_at (by with_unfolding_all rfl) (by decide) (by rfl) (by decide) (by rfl) ?_
        k_steps
        with_reducible rename Fr _ _ _ _ => F8
        with_reducible rename News _ _ _ _ => N8
        have hsr : Strs [Value.str (Str.ofString "a") tkT, Value.str (Str.ofString "b") (tkT + 1), Value.str (Str.ofString "ab") (tkT + 1 + 1), Value.str (Str.ofString "aab") (tkT + 1 + 1 + 1), Value.str (Str.ofString "abb") (tkT + 1 + 1 + 1 + 1), Value.str (Str.ofString "aabb") (tkT + 1 + 1 + 1 + 1 + 1)] rings6 := .cons _ _ (.cons _ _ (.cons _ _ (.cons _ _ (.cons _ _ (.cons _ _ .nil)))))
        refine ⟨_, _, _, _, _, _, fun _ => true, fun v y => ∃ (x : Str) (t t' : Tok), v = .str x t ∧ y = .str (Txt.mul x 8) t', src_list (vs := _) rfl (by is_list), ?hzx, (by k_asm), (by k_asm), ?hix, ?hiex, ?hdx⟩
        (case hzx => (rw [sizeLine_eq]; exact (by decide : 6 ≤ 16777216)))
        (case hix => exact fun i v C oC m₂ s₃ E' hv hC hm F3 N3 hlt => wpAny_tests_nil ⟨rfl, _, _, rfl, fun b o e => e⟩)
        (case hiex =>
          intro i v C oC m₂ s₃ E' hv hp hC hm F3 N3 hlt
          obtain ⟨x, t, hx, e⟩ := strs_get hsr hv
          subst e
          have hx10 := rings_len x (List.mem_of_getElem? hx)
          k_steps
          all_goals first | exact rfl | exact ⟨_, _, rfl, fun b o e => e⟩)
        (case hdx =>
          intro D4 h4 tk4 vs4 ys4 hlen hitems F4 N4 hD hDn hst hP
          obtain rfl := items_eq hlen hitems
          rw [List.filter_eq_self.mpr (fun _ _ => rfl)] at hP
          have hrg : Strs ys4 rings8 := map_of hsr hP
          have hrl := strs_length hrg
          obtain ⟨c4, hDo⟩ := hD
          have N5 := news_add F8 N4 hDo hDn
          clear F8 N8 N4 hP hst hDn hDo
          (try dsimp only)
          k_steps
          refine of_hold ?_
          with_unfolding_all refine' left_c ?j1 ?j2 ?j3 ?j4 ?j5 ?j6 ?j7 ?j8 hgu hga ?j9 hav ?j10 ?j11 hrg ?j12 ?j13 ?_
          (case j1 => exact K0)
          (case j2 => k_asm)
          (case j3 => k_asm)
          (case j4 => k_asm)
          (case j5 => exact rfl)
          (case j6 => ktr_room)
          (case j7 => ktr_units)
          (case j8 => exact ⟨News.get (by assumption) (by k_mem), rfl, rfl, News.get (by assumption) (by k_mem)⟩)
          (case j9 => is_list)
          (case j10 => exact agents_short hab)
          (case j11 => is_list)
          (case j12 => exact rings8_len)
          (case j13 => (rw [hrl]; decide))
          intro D5 c5 h5 tk5 hU hD5 hD5n
          with_reducible rename Fr _ _ _ _ => F6
          with_reducible rename News _ _ _ _ => N6
          have F7 := fr_up F6 hU
          have N7 := news_add F6 (news_up N6 hU) hD5 hD5n
          have hthr := strs_keep (ys := rings8.filter (askP (List.take 1 (ags.map agText) ++ Str.ofString "*" :: List.drop 1 (ags.map agText)))) hrg
          clear F6 N6 hU hD5n
          (try dsimp only)
          k_steps
          refine of_hold ?_
          with_reducible rename Fr _ _ _ _ => F9
          with_reducible rename News _ _ _ _ => N9
          refine eq_none N9 (by k_mem) rfl rfl hsT1 (by k_mem) rfl rfl (fun x hx => due_ok (hPT ▸ hx)) (by ktr_units) ?_
          k_steps
          refine of_hold ?_
          with_reducible rename News _ _ _ _ => N10
          refine eq_none N10 (by k_mem) rfl rfl hthr (by k_mem) rfl rfl (fun x hx => rings8_ok x (List.mem_filter.mp hx).1) (by ktr_units) ?_
          k_steps
          rw [show (xsT.isEmpty == (rings8.filter fun x => !((rings8.filter (askP (List.take 1 (ags.map agText) ++ Str.ofString "*" :: List.drop 1 (ags.map agText)))).any (· == x))).isEmpty) = true from by rw [hPT]; exact law_end hab]
          k_steps)))))
end
