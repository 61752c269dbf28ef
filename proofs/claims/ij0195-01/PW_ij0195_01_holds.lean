import PyProof.Rows.All
import Wide.All
import OpenK.AllK
import Wide.FinOn
import Lean
import PySem.Challenge.RW_ij0195_01
set_option Elab.async false
section
open PySem PySem.W PyProof.Rows
set_option maxRecDepth 100000
set_option maxHeartbeats 0
namespace Mine
open_top hd for PySem.Challenge.rw_ij0195_01
end Mine
end
section
open PySem PySem.W PyProof.Rows PySem.Calls
set_option maxRecDepth 100000
namespace Mine
section
variable {prog : Program} {w : World} {A A₀ : Around} {s : Shared} {base h₀ : Heap} {outer : List Env} {L : Addr} {m mg mb : Str → Option Value} {env : Env} {K : Frag} {p : Program} {loose : List Str} {mean : ExcName → Option Value}
  {R : Result → Shared → Prop} {name qual : Str} {params : Arguments} {body : List Stmt} {scope : Scope} {dV kV doc pm cdv ct oc : Value} {an od : Option Addr} {osl : Array (Option Value)} {f : Addr} {args : Args} {binds : List (Str × Value)}

/-- enter a def with everything that stands as its ground -/
theorem callP (B : Below A₀ base outer h₀) (F : Fr h₀ L s.heap m) (X₀ : K.In h₀) (T : Top p loose mean mg mb h₀) (hA : A.frames = some (env :: outer)) (hf : env.frame = some L) (hke : env.scope.kind = .function)
    (ho : K.lookup f = some ⟨oc, od, .func (fnOf name qual params body scope dV kV doc pm an cdv ct), osl⟩) (hcd : codeIn K cdv qual = true) (hroom : A.depth < recursionLimit)
    (hbind : BindsTo s (fnOf name qual params body scope dV kV doc pm an cdv ct) args binds) (hloc : ∀ y ∈ binds, scope.names.lookup y.1 = some .local)
    (h : ∀ L' h₁, Fr s.heap L' h₁ (fun y => binds.reverse.lookup y) → News s.heap L' h₁ [] → Below A base (env :: outer) s.heap → K.In s.heap → Top p loose mean mg mb s.heap →
      wpAny (model prog w) (A.deeper (envOf qual scope L' f cdv)) (execs body (envOf qual scope L' f cdv))
        (fun fl s' => R (.ok (.ret (match fl with | .ret v => v | _ => .none))) s')
        (fun e s' => wpAny (model prog w) (A.deeper (envOf qual scope L' f cdv)) (leaving (envOf qual scope L' f cdv) e) (fun _ s'' => R (.error e) s'') (fun e' s'' => R (.error e') s'') s')
        { s with heap := h₁, toks := s.toks + binds.length })
    (hco : scope.isCoroutine = false) (hgen : scope.isGenerator = false) (hk : scope.kind = .function)
    (hcell : ∀ x ∈ scope.names, x.2 ≠ .cell) : codeAny (model prog w) A (.call (.ref f) args) R s := by
  have X := X₀.keeps F.keep
  have T' := T.keeps F.keep
  have B₁ := pushX B F hf hke
  refine codeAny_call_def (fd := fnOf name qual params body scope dV kV doc pm an cdv ct) (body := body) (binds := binds) hroom (X _ _ ho) rfl T'.nolimit (codeRec_of X hcd) rfl hbind hcell hloc (fun h₁ hns hk₁ => ?_) hco hgen hk
  exact h s.heap.objs.size h₁ ⟨hns, hk₁, Nat.le_refl _⟩ News.nil ⟨hA, B₁.stays, B₁.frames⟩ X T'

theorem callPC (B : Below A₀ base outer h₀) (F : Fr h₀ L s.heap m) (X₀ : K.In h₀) (T : Top p loose mean mg mb h₀) (hA : A.frames = some (env :: outer)) (hf : env.frame = some L) (hke : env.scope.kind = .function)
    (ho : K.lookup f = some ⟨oc, od, .func (fnOf name qual params body scope dV kV doc pm an cdv ct), osl⟩) (hcd : codeIn K cdv qual = true) (hroom : A.depth < recursionLimit)
    (hbind : BindsTo s (fnOf name qual params body scope dV kV doc pm an cdv ct) args binds)
    (hkind : ∀ n, ∀ x ∈ binds, scope.names.lookup x.1 = some .local ∨ (scope.names.lookup x.1 = some .cell ∧ ((cellsFrom n scope.names []).lookup x.1).isSome = true))
    (hnd : ((cellsFrom 0 scope.names []).map (·.1)).Nodup)
    (h : ∀ L' h₁ tk cells, Fr s.heap L' h₁ (bindL (envOfC qual scope L' f cdv).kindOf binds fun _ => none) → News s.heap L' h₁ cells →
      CellsAre (bindC (envOfC qual scope L' f cdv).kindOf binds fun _ => none) (cellsFrom (L' + 1) scope.names []) cells → Below A base (env :: outer) s.heap → K.In s.heap → Top p loose mean mg mb s.heap →
      wpAny (model prog w) (A.deeper (envOfC qual scope L' f cdv)) (execs body (envOfC qual scope L' f cdv))
        (fun fl s' => R (.ok (.ret (match fl with | .ret v => v | _ => .none))) s')
        (fun e s' => wpAny (model prog w) (A.deeper (envOfC qual scope L' f cdv)) (leaving (envOfC qual scope L' f cdv) e) (fun _ s'' => R (.error e) s'') (fun e' s'' => R (.error e') s'') s')
        { s with heap := h₁, toks := tk })
    (hco : scope.isCoroutine = false) (hgen : scope.isGenerator = false) (hk : scope.kind = .function) : codeAny (model prog w) A (.call (.ref f) args) R s := by
  have X := X₀.keeps F.keep
  have T' := T.keeps F.keep
  have B₁ := pushX B F hf hke
  refine codeAny_call_function hroom (X _ _ ho) rfl hco hgen rfl (codeRec_of X hcd) (hbind _ _ _ _ ?_)
  refine wpAny_newFunctionEnv_cells hk (hkind _) fun env' he s' x => ?_
  subst he
  refine ⟨T'.nolimit.keeps x.toInCall.keep, codeAny_func ?_⟩
  obtain ⟨h₁, tk, rfl, _⟩ := x.done
  have hk₁ := x.toInCall.keep
  obtain ⟨cells, NC, Y⟩ := Cl.news (h₀ := s.heap) (Nat.le_refl _) fun n c hm => ⟨x.cell n c (lookup_of_mem_nodup (cellsFrom_names scope.names 0 (s.heap.objs.size + 1) [] [] rfl ▸ hnd) hm), x.above n c hm⟩
  exact h s.heap.objs.size h₁ tk cells ⟨x.toInCall.ns, hk₁, Nat.le_refl _⟩ NC Y ⟨hA, B₁.stays, B₁.frames⟩ X T'
end
theorem inst_up {h h' : Heap} {x C : Addr} {ox : Obj} {od : Option Obj} (I : InstAt h x ox C od) (k : ∀ b o, h.get? b = some o → h'.get? b = some o) : InstAt h' x ox C od := by
  refine ⟨k _ _ I.at_, I.cls, I.no, ?_⟩
  have q := I.dict
  revert q
  cases ox.dict <;> cases od <;> simp only [] <;> first | exact id | exact k _ _
section
variable {prog : Program} {w : World} {A : Around} {E : Value → Shared → Prop} {s : Shared} {env : Env} {h₀ : Heap} {x : Str} {body : List Stmt} {Q : Flow → Shared → Prop}
/-- a for over a list that stands: the turn stores its own name alone; J tells what the turns so far say -/
theorem iter_find {l : Addr} {vs : List Value} {m₀ : Str → Option Value} {news : List (Addr × Obj)} (J : Nat → Prop)
    (hh : A.handled = none) (hl : h₀.IsList l vs.toArray) (F : Fr h₀ env.locals s.heap m₀) (N : News h₀ env.locals s.heap news) (hj : J 0)
    (turn : ∀ i v h tk own, vs[i]? = some v → J i → Fr h₀ env.locals h (fun y => if y = x then some v else m₀ y) → News h₀ env.locals h (own ++ news) →
      wpAny (model prog w) A (execs body env) (InvPost h₀ env.locals (fun m' => J (i + 1) ∧ ∀ z, z ≠ x → m' z = m₀ z) (own ++ news) { s with heap := h, toks := tk } Q) E { s with heap := h, toks := tk })
    (done : ∀ (u : Str → Option Value) h tk, J vs.length → Fr h₀ env.locals h (fun z => if z = x then u z else m₀ z) → News h₀ env.locals h news → Q .next { s with heap := h, toks := tk }) :
    wpAny (model prog w) A (pyIter (.ref l)) (fun it s₂ => LoopAtV prog w A h₀ env x body Q E it s₂) E s := by
  have hls : s.heap.IsList l vs.toArray := hl.at fun o e => F.keep l o e
  obtain ⟨ol, hol, _⟩ := id hl
  have hlt : l < h₀.objs.size := Heap.lt_size hol
  have hne : l ≠ s.heap.objs.size := Nat.ne_of_lt (Nat.lt_trans (Nat.lt_of_lt_of_le hlt F.above) F.ns.lt)
  refine wpAny_pyIter_list hls ?_
  have W := Walks.list (prog := prog) (w := w) hh s.heap.objs.size l hne vs.toArray
  have hlen : vs.toArray.size = vs.length := by simp
  rw [hlen] at W
  let J' : Nat → (Str → Option Value) → List (Addr × Obj) → Prop := fun i m₁ news₁ => news₁ = news ∧ J i ∧ ∀ z, z ≠ x → m₁ z = m₀ z
  refine ⟨_, _, _, vs.length, _, _, m₀, news, J', rfl, W, ?_, ?_, ?_, ⟨⟨_, Heap.get?_push_size _ rfl, rfl, rfl⟩, hls.at fun o e => Heap.get?_push_of_some _ e⟩, F.push _, (fun p hp => ⟨Heap.get?_push_of_some _ (N p hp).1, (N p hp).2⟩), ⟨rfl, hj, fun _ _ => rfl⟩, ?_, ?_⟩
  · intro hm
    rcases List.mem_cons.mp hm with e | hm
    · exact absurd F.ns.lt (e ▸ Nat.lt_irrefl _)
    · exact absurd (Nat.lt_of_lt_of_le hlt F.above) ((List.mem_singleton.mp hm) ▸ Nat.lt_irrefl _)
  · intro b hb
    rw [List.mem_singleton.mp hb]
    exact next_is_new F
  · intro p hp hI
    exact absurd (Heap.lt_size (N p hp).1) ((List.mem_singleton.mp hI) ▸ Nat.lt_irrefl _)
  · rintro i v m₁ news₁ s₁ own ⟨hh', tk', rfl⟩ hin hP ⟨rfl, hJ, hm₁⟩ hoff _ _ _ _ F₁ N₁
    have hv : vs[i]? = some v := by simpa using hP
    have e₁ : (fun y => if y = x then some v else m₁ y) = fun y => if y = x then some v else m₀ y := by
      funext z
      by_cases h1 : z = x
      · simp [h1]
      · simp only [if_neg h1]; exact hm₁ z h1
    rw [e₁] at F₁
    refine wpAny_mono (turn i v hh' tk' own hv hJ F₁ N₁) (fun f s₂ p => ?_) fun _ _ e => e
    have fin : InvEnd h₀ env.locals (fun m' => J (i + 1) ∧ ∀ z, z ≠ x → m' z = m₀ z) (own ++ news₁) { s with heap := hh', toks := tk' } s₂ → LoopStepU h₀ env.locals [s.heap.objs.size] own (J' (i + 1)) { s with heap := hh', toks := tk' } .next s₂ := by
      rintro ⟨h', tk, m', news', e, F', N', hn, hm⟩
      exact ⟨rfl, h', tk, m', news₁, e, F', fun p hp => N' p (hn p hp), hoff, rfl, hm⟩
    cases f with
    | ret v => exact .ret p
    | brk => exact .brk p
    | next => exact .next (fin p)
    | cont => exact .cont (fin p)
  · rintro h' tk m' news' F' N' _ ⟨rfl, hJ, hm'⟩
    refine done m' h' tk hJ ?_ N'
    have e : (fun z => if z = x then m' z else m₀ z) = m' := by
      funext z
      by_cases h1 : z = x
      · simp [h1]
      · simp only [if_neg h1]; exact (hm' z h1).symm
    rw [e]; exact F'
end

def TurnEnd (P : Shared → Prop) (Q : Flow → Shared → Prop) (f : Flow) (s : Shared) : Prop := match f with
  | .next => P s
  | .cont => P s
  | .brk => Q .next s
  | .ret v => Q (.ret v) s
section
variable {prog : Program} {w : World} {A : Around} {E : Value → Shared → Prop} {s : Shared} {env : Env} {body : List Stmt} {Q : Flow → Shared → Prop}
theorem while_true {k : Nat} {p pos : Pos} (I : Nat → Shared → Prop)
    (turn : ∀ n s, I n s → wpAny (model prog w) A (execs body env) (TurnEnd (fun s' => ∃ m, m < n ∧ I m s') Q) E s) (n : Nat) (h : I n s)
    (hE : PassesOwn (model prog w) A env E := by passes_own) :
    wpAny (model prog w) A (exec (.While (.Constant (.bool true) k p) body [] pos) env) Q E s := by
  refine wpAny_While (codeAny_whileLoop (R := fun r s' => match r with | .ok f => Q f s' | .error e => cameBackBy (model prog w) A env E e s') I (fun n s hI => ?_) n h)
  refine wpAny_isTrue_value (wpAny_Constant_bool (wpAny_truthy_bool ?_))
  rw [if_pos rfl]
  refine wpAny_mono (turn n s hI) (fun f s₃ h₃ => ?_) hE
  cases f <;> exact h₃

theorem below_max {A : Around} {base h : Heap} {outer : List Env} (B : Below A base outer h) : Below A (hideAll h (outer.filterMap (·.frame))) outer h :=
  ⟨B.stack, fun b o q => of_hideAll _ q, funFrames_hide B.frames fun env he b hb => List.mem_filterMap.mpr ⟨env, he, hb⟩⟩
end

def Hold (P : Prop) : Prop := P
theorem hold_ {P : Prop} (h : Hold P) : P := h
theorem of_hold {P : Prop} (h : P) : Hold P := h

def LedEnd (g : Heap) (L : Addr) (m₀ : Str → Option Value) (x : Str) (led : Nat → List (Addr × Obj)) (P : Nat → Prop) (i len : Nat) (s s' : Shared) : Prop :=
  ∃ (h' : Heap) (tk' : Nat) (u' : Str → Option Value), i < len ∧ P (i + 1) ∧ s' = { s with heap := h', toks := tk' } ∧ Fr g L h' (fun z => if z = x then u' z else m₀ z) ∧ News g L h' (led (i + 1))
section
variable {prog : Program} {w : World} {A : Around} {E : Value → Shared → Prop} {s : Shared} {env : Env} {body : List Stmt} {Q : Flow → Shared → Prop}
theorem while_led {k : Nat} {p pos : Pos} {g : Heap} {m₀ : Str → Option Value} {x : Str} (led : Nat → List (Addr × Obj)) (P : Nat → Prop) (len i₀ : Nat) (F : Fr g env.locals s.heap m₀) (N : News g env.locals s.heap (led i₀)) (hP : P i₀) (hi : i₀ ≤ len)
    (turn : ∀ (i : Nat) (u : Str → Option Value) (h : Heap) (tk : Nat), i ≤ len → P i → Fr g env.locals h (fun z => if z = x then u z else m₀ z) → News g env.locals h (led i) →
      wpAny (model prog w) A (execs body env) (TurnEnd (LedEnd g env.locals m₀ x led P i len { s with heap := h, toks := tk }) Q) E { s with heap := h, toks := tk })
    (hE : PassesOwn (model prog w) A env E := by passes_own) :
    wpAny (model prog w) A (exec (.While (.Constant (.bool true) k p) body [] pos) env) Q E s := by
  refine while_true (fun n s' => ∃ (h : Heap) (tk : Nat) (u : Str → Option Value) (i : Nat), n = len - i ∧ i ≤ len ∧ P i ∧ s' = { s with heap := h, toks := tk } ∧ Fr g env.locals h (fun z => if z = x then u z else m₀ z) ∧ News g env.locals h (led i)) ?_ (len - i₀) ⟨s.heap, s.toks, m₀, i₀, rfl, hi, hP, rfl, ?_, N⟩ hE
  · rintro n s' ⟨h, tk, u, i, rfl, hi, hP, rfl, F', N'⟩
    refine wpAny_mono (turn i u h tk hi hP F' N') (fun f s₃ h₃ => ?_) fun _ _ e => e
    have fin : LedEnd g env.locals m₀ x led P i len { s with heap := h, toks := tk } s₃ → ∃ m, m < len - i ∧ ∃ (h : Heap) (tk : Nat) (u : Str → Option Value) (j : Nat), m = len - j ∧ j ≤ len ∧ P j ∧ s₃ = { s with heap := h, toks := tk } ∧ Fr g env.locals h (fun z => if z = x then u z else m₀ z) ∧ News g env.locals h (led j) := by
      rintro ⟨h', tk', u', hlt, hP', rfl, F'', N''⟩
      exact ⟨len - (i + 1), by omega, h', tk', u', i + 1, rfl, hlt, hP', rfl, F'', N''⟩
    cases f with
    | next => exact fin h₃
    | cont => exact fin h₃
    | brk => exact h₃
    | ret v => exact h₃
  · have e : (fun z => if z = x then m₀ z else m₀ z) = m₀ := by funext z; split <;> rfl
    rw [e]; exact F
end

theorem fr_over {g h : Heap} {L : Addr} {x : Str} {v : Option Value} {u m₀ : Str → Option Value} (F : Fr g L h (fun z => if z = x then v else (if z = x then u z else m₀ z))) : Fr g L h (fun z => if z = x then (fun _ => v) z else m₀ z) := by
  have e : (fun z => if z = x then v else (if z = x then u z else m₀ z)) = fun z => if z = x then (fun _ => v) z else m₀ z := by
    funext z
    by_cases hz : z = x
    · simp [hz]
    · simp [hz]
  rw [e] at F; exact F
end Mine
end
section
open PySem PySem.W PyProof.Rows
set_option maxRecDepth 100000
set_option maxHeartbeats 0
namespace Mine
abbrev Strs := StrsAre
theorem strs_get {vs : List Value} {xs : List Str} (h : Strs vs xs) : ∀ {i : Nat} {v : Value}, vs[i]? = some v → ∃ x t, xs[i]? = some x ∧ v = .str x t := by
  induction h with
  | nil => intro i v e; simp at e
  | @cons x t vs xs _ ih =>
    intro i v e
    cases i with
    | zero => exact ⟨x, t, rfl, (Option.some.inj e).symm⟩
    | succ i => exact ih e
def headPart (u : Str) : Str := ((Txt.split u (Str.ofString "/"))[0]?).getD u
theorem headPart_of {u y : Str} {xs : List Str} (e : xs = Txt.split u (Str.ofString "/")) (h : xs[Int.toNat 0]? = some y) : y = headPart u := by
  subst e; unfold headPart; show y = (((Txt.split u (Str.ofString "/"))[Int.toNat 0]?).getD u); rw [h]; rfl
def hasIn (u x : Str) : Bool := !(Builtin.Str.occurrences u x 0 u.length 1).isEmpty
def hits (u x : Str) : Bool := !(x == Str.ofString "*") && hasIn (Txt.lower (headPart u)) (Txt.lower x)
local macro_rules | `(tactic| k_get) => `(tactic| assumption)
theorem hits_no1 {u x : Str} (h : (x != Str.ofString "*") = false) : hits u x = false := by
  unfold hits
  have : (x == Str.ofString "*") = true := by simpa using h
  rw [this]; rfl
theorem hits_no2 {u x y : Str} (e : y = headPart u) (h : (Builtin.Str.occurrences (Txt.lower y) (Txt.lower x) 0 (Txt.lower y).length 1).isEmpty = true) : hits u x = false := by subst e; unfold hits hasIn; rw [h]; simp
theorem hits_yes {u x y : Str} (e : y = headPart u) (h1 : (x != Str.ofString "*") = true) (h : (Builtin.Str.occurrences (Txt.lower y) (Txt.lower x) 0 (Txt.lower y).length 1).isEmpty = false) : hits u x = true := by
  subst e; unfold hits hasIn; rw [h]
  have : (x == Str.ofString "*") = false := by simpa using h1
  rw [this]; rfl
theorem any_yes {α : Type} {p : α → Bool} {xs : List α} {i : Nat} {x : α} (hx : xs[i]? = some x) (h : p x = true) : xs.any p = true := List.any_eq_true.mpr ⟨x, List.mem_of_getElem? hx, h⟩
theorem any_no {α : Type} {p : α → Bool} {xs : List α} (h : ∀ x ∈ xs, p x = false) : xs.any p = false := List.any_eq_false.mpr fun x hx => by rw [h x hx]; decide
theorem take_step {α : Type} {p : α → Prop} {xs : List α} {i : Nat} {x : α} (hJ : ∀ x ∈ xs.take i, p x) (hx : xs[i]? = some x) (h : p x) : ∀ x ∈ xs.take (i + 1), p x := by
  intro z hz
  rw [List.take_add_one, hx] at hz
  rcases List.mem_append.mp hz with q | q
  · exact hJ z q
  · simp at q; exact q ▸ h
theorem strs_length {vs : List Value} {xs : List Str} (h : Strs vs xs) : vs.length = xs.length := by induction h with | nil => rfl | cons _ _ _ ih => simp [ih]
local macro_rules | `(tactic| k_inst) => `(tactic| exact inst_up (by assumption) (Fr.keep (by k_asm)))
local macro_rules | `(tactic| walk_at "call builtin:str.lower") => `(tactic| ((with_reducible rename (∀ a, a ∈ _ → Str.length a ≤ _) => hs'); (have hk' := hs' _ (List.mem_of_getElem? (by assumption))); (refine SCL.lower (by omega) ?_); intro _))
theorem applies_c {w : World} {loose : List Str} {mean : ExcName → Option Value} {mg mb : Str → Option Value}
  {dp un : Nat} {gd : Option (List Code)} {cn : Str} {cs : Scope} {a : Addr} {ccd : Value} {cl : List (Str × Addr)} {outer : List Env} {A₀ : Around} {base h₀ : Heap} {L : Addr} {m : Str → Option Value} {s : Shared} {Q E : Value → Shared → Prop}
  {one d l : Addr} {es : List DictEntry} {n : Nat} {sl : Array (Option Value)} {vs : List Value} {xs : List Str} {u : Str} {tk : Tok}
  (B : Below A₀ base outer h₀) (F : Fr h₀ L s.heap m) (X : (hd.heap_39 w.params).In h₀) (T : Top hd.view_39 loose mean mg mb h₀) (hk : cs.kind = .function) (hdp : dp + 1 < recursionLimit) (hun : un + 8 < cLine)
  (I : InstAt s.heap one ⟨.ref 59, some d, .plain, sl⟩ 59 (some (dictOf es n)))
  (he : getL "useragents" es = some (some (.ref l)))
  (hu : u.length ≤ 100000) (hl : s.heap.IsList l vs.toArray) (hs : Strs vs xs) (hxs : ∀ x ∈ xs, x.length ≤ 100000)
  (hret : ∀ h' tk', s.heap.StaysIn h' → Q (.bool (xs.any (hits u))) { s with heap := h', toks := tk' }) :
  wpAny (model Challenge.rw_ij0195_01.row.prog w) (ktrTop dp un gd cn cs L a ccd cl outer) (call (.ref 49) [.ref one, .str u tk]) Q E s := by
  w_strict (
    (revert X; k_fill; intro X)
    refine wpAny_call ?_
    refine' callP ?k1 ?k2 ?k3 ?k5 ?kA ?kF ?kK ?k6 ?k7 ?k8 ?k9 ?kB ?_ ?c2 ?c3 ?c4 ?c5
    (case kA => exact rfl); (case kF => exact rfl); (case kK => assumption); (case k1 => k_asm); (case k2 => k_asm); (case k3 => k_asm); (case k5 => k_asm); (case k6 => k_is); (case k7 => k_is); (case k8 => ktr_room); (case k9 => exact BindsTo.of_eq rfl); (case c5 => decide); (case kB => exact locs rfl); (case c2 => exact rfl); (case c3 => exact rfl); (case c4 => exact rfl)
    k_whole
    intro L' h' F' N' B' X' T'
    (try dsimp only)
    (try k_lift B')
    (try k_fold)
    k_steps
    (all_goals (with_unfolding_all refine' iter_find (fun i => ∀ x ∈ xs.take i, hits u x = false) ?i1 ?i2 ?i3 ?i4 ?i5 ?i6 ?i7))
    (case i1 => exact rfl)
    (case i2 => assumption)
    (case i3 => k_asm)
    (case i4 => k_asm)
    (case i5 => (intro x hx; simp at hx))
    (case i6 =>
      intro i v h2 tk2 own hv hJ F2 N2
      (obtain ⟨x, t, hx, e⟩ := strs_get hs hv)
      subst e
      have hb := hxs _ (List.mem_of_getElem? hx)
      (try dsimp only)
      (try k_fold)
      k_steps
      all_goals (have ey := headPart_of (u := u) (by assumption) (by assumption))
      all_goals first
        | (refine InvEnd.intro (by assumption) (by assumption) (by first | k_sub | exact fun p hp => hp) ⟨take_step hJ hx (by first | exact hits_no1 (by assumption) | exact hits_no2 ey (by assumption)), ?_⟩; (intro z hz; first | rfl | (simp [hz]; done)))
        | ((have ea := any_yes hx (hits_yes ey (by assumption) (by assumption))); (rw [ea] at hret); exact hret _ _ (Fr.keep (by assumption))))
    (case i7 =>
      intro u2 h2 tk2 hJ F2 N2
      (try dsimp only)
      (try k_fold)
      k_steps
      have ea := any_no (p := hits u) (xs := xs) (by rw [strs_length hs, List.take_length] at hJ; exact hJ)
      rw [ea] at hret
      exact hret _ _ (Fr.keep (by assumption))))
end Mine
end
section
open PySem PySem.W PyProof.Rows PySem.Calls
set_option maxRecDepth 100000
set_option maxHeartbeats 0
namespace Mine
def boundIn (l : Addr) : Obj := { cls := .type "method-wrapper", data := .fields #[.builtin "list.__contains__", .ref l] }
theorem lk_list_contains : typeLookup (.type "list") "__contains__" = pure (some (.builtin "list.__contains__")) := by rw [typeLookup_type, builtinLookup_eq_fast]; kernel_rfl
theorem type_lc : typeOf (.builtin "list.__contains__") = pure (.type "wrapper_descriptor") := by show builtinType _ = _; rw [builtinType_eq_fast]; kernel_rfl
theorem slot_wd_get : Slot "wrapper_descriptor" "__get__" "wrapper_descriptor.__get__" :=
  .of (owner := "wrapper_descriptor") (n := "__get__") (by rw [typeLookup_type, builtinLookup_eq_fast]; kernel_rfl) (by decide +kernel) (by decide +kernel) (by decide +kernel)
    (by first | exact .inl (by decide +kernel) | exact .inr (by decide +kernel)) (by rw [isSubtype_type]; kernel_rfl)
theorem wd_no_set : typeLookup (.type "wrapper_descriptor") "__set__" = pure none := by rw [typeLookup_type, builtinLookup_eq_fast]; kernel_rfl
theorem wd_no_del : typeLookup (.type "wrapper_descriptor") "__delete__" = pure none := by rw [typeLookup_type, builtinLookup_eq_fast]; kernel_rfl
theorem entry_wd_get : entryFor table "wrapper_descriptor.__get__" = some Builtin.«wrapper_descriptor.__get__» := entryFor_of_tree (by kernel_rfl)
theorem args_wd_get (a b c : Value) : argsOk "wrapper_descriptor.__get__" ⟨[a, b, c], []⟩ := by unfold argsOk; kernel_rfl
theorem type_wd : typeOf (.builtin "wrapper_descriptor.__get__") = pure (.type "wrapper_descriptor") := by show builtinType _ = _; rw [builtinType_eq_fast]; kernel_rfl
theorem list_no_getattr : typeLookup (.type "list") "__getattr__" = pure none := list_getattr_none
theorem owner_lc : ".".intercalate ("list.__contains__".cutAt '.').dropLast = "list" := by first | rfl | decide +kernel | kernel_rfl
section
variable {prog : Program} {w : World} {A : Around} {E : Value → Shared → Prop} {s : Shared} {h : Heap} {g : Array GenState} {d : Drawn} {t : Nat} {os : OsState} {a : Addr} {o : Obj}
theorem wd_get_run {Q : Fin → Shared → Prop} (hx : h.get? a = some o) (hc : o.cls = .type "list") (hq : Q (.done (.ret (.ref h.objs.size))) ⟨h.push (boundIn a), g, d, t, os⟩) :
    wpAny (model prog w) A (Builtin.«wrapper_descriptor.__get__» ⟨[.builtin "list.__contains__", .ref a, .type "list"], []⟩) Q E ⟨h, g, d, t, os⟩ := by
  have hT : (⟨h, g, d, t, os⟩ : Shared).TypeIs (.ref a) "list" := ⟨_, hx, hc⟩
  have f8 : isSubtype (.type "list") (.type "list") = pure true := sub_list_self
  unfold Builtin.«wrapper_descriptor.__get__»
  repeat (any_goals (first | assumption | wp_step))
  rw [owner_lc]
  repeat (any_goals (first | assumption | wp_step))
theorem wd_get_call {Q : Value → Shared → Prop} (hx : h.get? a = some o) (hc : o.cls = .type "list") (hq : Q (.ref h.objs.size) ⟨h.push (boundIn a), g, d, t, os⟩) :
    wpAny (model prog w) A (call (.builtin "wrapper_descriptor.__get__") [.builtin "list.__contains__", .ref a, .type "list"]) Q E ⟨h, g, d, t, os⟩ :=
  wpAny_call_entry slot_wd_get type_lc entry_wd_get (wd_get_run hx hc ⟨_, rfl, hq⟩) (args_wd_get _ _ _)
theorem lga_run {tk : Tok} {xs : Array Value} {k : Nat} {sl : Array (Option Value)} {Q : Fin → Shared → Prop} (hx : h.get? a = some { cls := .type "list", dict := none, data := .seq xs k, slots := sl }) (hq : Q (.done (.ret (.ref h.objs.size))) ⟨h.push (boundIn a), g, d, t, os⟩) :
    wpAny (model prog w) A (Builtin.«object.__getattribute__» ⟨[.ref a, .str "__contains__" tk], []⟩) Q E ⟨h, g, d, t, os⟩ := by
  have hT : (⟨h, g, d, t, os⟩ : Shared).TypeIs (.ref a) "list" := ⟨_, hx, rfl⟩
  have f4 := lk_list_contains
  have f5 := type_lc
  have f6 := slot_wd_get.lookup
  have f7 := wd_no_set
  have f9 := wd_no_del
  unfold Builtin.«object.__getattribute__»
  repeat (any_goals (first | assumption | ((with_reducible show wpAny _ _ (call (Value.builtin "wrapper_descriptor.__get__") _ _) _ _ _); refine wd_get_call hx rfl ?_) | wp_step))
theorem lga_call {tk : Tok} {xs : Array Value} {k : Nat} {sl : Array (Option Value)} {R : Result → Shared → Prop} (hx : h.get? a = some { cls := .type "list", dict := none, data := .seq xs k, slots := sl }) (hq : R (.ok (.ret (.ref h.objs.size))) ⟨h.push (boundIn a), g, d, t, os⟩) :
    codeAny (model prog w) A (.call (.builtin "list.__getattribute__") ⟨[.ref a, .str "__contains__" tk], []⟩) R ⟨h, g, d, t, os⟩ :=
  codeAny_call_builtin F.slot_list_getattribute.plain F.entry_list_ga (F.slot_list_getattribute.check _ _ _ _ _ _ _ _ (show (⟨h, g, d, t, os⟩ : Shared).TypeIs (.ref a) "list" from ⟨_, hx, rfl⟩) (F.args_list_getattribute_2 _ _) (lga_run hx hq))
theorem getattr_contains {xs : Array Value} {k : Nat} {sl : Array (Option Value)} {Q : Value → Shared → Prop} (hx : h.get? a = some { cls := .type "list", dict := none, data := .seq xs k, slots := sl }) (hq : Q (.ref h.objs.size) ⟨h.push (boundIn a), g, d, t + 1, os⟩) :
    wpAny (model prog w) A (getAttr (.ref a) "__contains__" true) Q E ⟨h, g, d, t, os⟩ := by
  have hT : ∀ tk', (⟨h, g, d, tk', os⟩ : Shared).TypeIs (.ref a) "list" := fun _ => ⟨_, hx, rfl⟩
  have f3 := F.slot_list_getattribute.lookup
  have f4 := F.slot_list_getattribute.bind (.ref a)
  unfold getAttr getAttrBy
  repeat (any_goals (first | assumption | exact hT _ | ((with_reducible show codeAny _ _ (Code.call (Value.builtin "list.__getattribute__") _) _ _); refine lga_call hx ?_) | wp_step))
theorem check_lc (l : Addr) (v : Value) : checkBoundCall "list.__contains__" ⟨[.ref l, v], []⟩ = pure () := by first | kernel_rfl | rfl
theorem quiet_lc {as : Args} : (Code.builtin "list.__contains__" as).quiet = true := Code.quiet_builtin _ (by decide +kernel)
theorem call_contains {x l : Addr} {vs : List Value} {ys : List Str} {kk : Str} {tk : Tok} {s : Shared} {Q : Value → Shared → Prop} (ho : s.heap.get? x = some (boundIn l)) (hl : s.heap.IsList l vs.toArray) (hi : StrsAre vs ys)
    (h : Q (.bool (ys.any (· == kk))) s) : wpAny (model prog w) A (call (.ref x) [.str kk tk]) Q E s := by
  refine wpAny_call (codeAny_of_tree ?_)
  show wpAny _ A.in1 (callAny (.ref x) ⟨[.str kk tk], []⟩) _ _ s
  simp only [callAny]
  refine wpAny_bind (wpAny_load ho ?_)
  simp only [boundIn, show (Value.type "method-wrapper" == Value.type "method" || Value.type "method-wrapper" == Value.type "builtin_function_or_method" || Value.type "method-wrapper" == Value.type "method-wrapper") = true by decide, if_true]
  refine KFB.if_so (by decide) ?_
  refine wpAny_bind (wpAny_of_eq (a := ()) (check_lc _ _) ?_)
  refine wpAny_bind (wpAny_pure (wpAny_pure ?_))
  obtain ⟨⟨cls, dd, data, sl⟩, ho2, hc, n, hd⟩ := id hl
  simp only at hc hd
  subst hc hd
  exact ⟨quiet_lc, codeAny_builtin F.entry_list_contains (SeqInW.list_containsW l vs.toArray n dd sl _ (isStrOf kk) (fun y hy => eq_isStrOf kk tk hi y (by simpa using hy)) prog w _ _ _ ⟨ho2, by rw [← Array.any_toList, show vs.toArray.toList = vs from rfl, any_isStrOf kk hi]; exact h⟩)⟩
theorem getattr_containsN {s : Shared} {h₀ : Heap} {L sk : Addr} {m : Str → Option Value} {news : List (Addr × Obj)} {items : Array Value} {Q : Value → Shared → Prop} (F : Fr h₀ L s.heap m) (N : News h₀ L s.heap news) (hl : h₀.PlainList sk items)
    (h : ∀ x h', Fr h₀ L h' m → News h₀ L h' ((x, boundIn sk) :: news) → (∀ p ∈ news, p.1 < x) → Q (.ref x) { s with heap := h', toks := s.toks + 1 }) :
    wpAny (model prog w) A (getAttr (.ref sk) "__contains__" true) Q E s := by
  obtain ⟨n, e⟩ := hl
  obtain ⟨hp, g, d, t, os⟩ := s
  exact getattr_contains (F.keep _ _ e) (h _ _ (F.push _) (N.push F _) fun p hp => Heap.lt_size (N p hp).1)
end

def BAt (u l : Addr) (h : Heap) : Prop := h.get? u = some (boundIn l)
section
variable {prog : Program} {w : World} {M : Model} {A : Around} {E : Value → Shared → Prop} {s : Shared} {h₀ : Heap} {L : Addr} {m : Str → Option Value} {news : List (Addr × Obj)}
theorem bat_of {u l : Addr} {h : Heap} (N : News h₀ L h news) (hm : (u, boundIn l) ∈ news) : BAt u l h := N.get hm
theorem callWith_bm {pos : Pos} {u l : Addr} {first : List Value} {args : List (Bool × Sem Value)} {Q : Value → Shared → Prop} (hplain : args.any (·.1) = false)
    (h : wpAny M A (evalArgs (.ref u) true args []) (fun x s₁ => BAt u l s₁.heap ∧ wpAny M A (call (.ref u) (first ++ x.pos) x.kw) Q E s₁) E s) : wpAny M A (callWith pos (.ref u) first args []) Q E s := by
  unfold callWith
  refine wpAny_bind (wpAny_holding (wpAny_mono h (fun x s₁ h₁ => wpAny_bind (wpAny_standAt ?_)) fun _ _ x => x))
  obtain ⟨ho, hcall⟩ := h₁
  simp only [hplain, List.any_nil, Bool.or_false]
  refine wpAny_bind (m := keeperOf (.ref u)) ?_
  unfold keeperOf
  refine wpAny_bind (wpAny_load ho ?_)
  simp only [boundIn, show (Value.type "method-wrapper" != Value.type "method") = true by decide, show (Value.type "method-wrapper" == Value.type "builtin_function_or_method" || Value.type "method-wrapper" == Value.type "method-wrapper") = true by decide, if_true]
  refine wpAny_pure ?_
  exact wpAny_bind (wpAny_mono hcall (fun r s₂ hr => wpAny_bind (wpAny_holding (wpAny_point (wpAny_pure hr)))) fun _ _ x => x)
theorem callWith_bmN {pos : Pos} {u l : Addr} {first : List Value} {env : Env} {e : Expr} {rest : List Expr} {Q : Value → Shared → Prop} (_N : News h₀ L s.heap news) (_hm : (u, boundIn l) ∈ news)
    (h : wpAny M A (spliced (backTo pos (starEach (e :: rest) env))) (fun vs s₁ => BAt u l s₁.heap ∧ wpAny M A (call (.ref u) (first ++ vs)) Q E s₁) E s)
    (he : starEach (e :: rest) env = (false, eval e env) :: starEach rest env := by rfl) (hplain : (backTo pos (starEach rest env)).any (·.1) = false := by rfl) :
    wpAny M A (callWith pos (.ref u) first (backTo pos (starEach (e :: rest) env)) []) Q E s := by
  rw [he] at h ⊢
  refine callWith_bm (l := l) (by show (false || (backTo pos (starEach rest env)).any (·.1)) = false; rw [hplain]; rfl) ?_
  exact evalArgs_plain h
theorem call_containsN {x l : Addr} {vs : List Value} {ys : List Str} {kk : Str} {tk : Tok} {Q : Value → Shared → Prop} (N : News h₀ L s.heap news) (hm : (x, boundIn l) ∈ news) (hl : s.heap.IsList l vs.toArray) (hi : StrsAre vs ys)
    (h : Q (.bool (ys.any (· == kk))) s) : wpAny (model prog w) A (call (.ref x) [.str kk tk]) Q E s := call_contains (N.get hm) hl hi h
end
end Mine
end
section
open PySem PySem.W PyProof.Rows PySem.Calls
set_option maxRecDepth 100000
set_option maxHeartbeats 0
namespace Mine
/-- a list's iterator at a place; behind the end -/
def itObj (l : Addr) (i : Nat) : Obj := { cls := .type "list_iterator", data := .fields #[.ref l, .int i 0] }
def itEnd (i : Nat) : Obj := { cls := .type "list_iterator", data := .fields #[.none, .int i 0] }
section
variable {prog : Program} {w : World} {A : Around} {E : Value → Shared → Prop} {s : Shared} {h₀ : Heap} {L l it : Addr} {m : Str → Option Value} {news : List (Addr × Obj)} {items : Array Value} {g : Obj → List (Addr × Obj)} {x : Value} {i : Nat}
theorem iter_listN {Q : Value → Shared → Prop} (F : Fr h₀ L s.heap m) (N : News h₀ L s.heap news) (hl : s.heap.IsList l items)
    (h : ∀ I h', Fr h₀ L h' m → News h₀ L h' ((I, itObj l 0) :: news) → (∀ p ∈ news, p.1 < I) → Q (.ref I) { s with heap := h' }) :
    wpAny (model prog w) A (call (.builtin "iter") [.ref l]) Q E s := by
  refine call_function_entry (by decide +kernel) (by decide +kernel) kdk_entry_iter (kdk_args_iter _) ?_
  unfold Builtin.«iter»
  refine wpAny_bind (m := someArgs "iter" 1 2 _) (wpAny_of_eq (a := [Value.ref l]) (by first | rfl | kernel_rfl!) ?_)
  show wpAny _ _ (pyIter (.ref l) >>= _) _ _ _
  refine wpAny_bind (wpAny_pyIter_list hl ?_)
  exact wpAny_pure ⟨_, rfl, h _ _ (F.push _) (News.push F N _ rfl) (fun q hq => Heap.lt_size (N q hq).1)⟩

theorem isListIter_of {h : Heap} (e : h.get? it = some (itObj l i)) : h.IsListIter it l i := ⟨_, e, rfl, rfl⟩

theorem special_item {Q : Option Value → Shared → Prop} (ho : s.heap.get? it = some (itObj l i)) (hl : s.heap.IsList l items) (hx : items[i]? = some x)
    (hQ : Q (some x) { s with heap := s.heap.update it (Obj.mapFields (·.setIfInBounds 1 (rawInt ((i : Int) + 1)))) }) :
    wpAny (model prog w) A (callSpecial? (.ref it) (Str.ofString "__next__")) Q E s := by
  have hit := isListIter_of ho
  have hd : (itObj l i).data = .fields #[.ref l, .int i 0] := rfl
  obtain ⟨ol, hol, _, nl, hdl⟩ := hl
  refine wpAny_callSpecial?_slot (name := Str.ofString "__next__") hit.typeIs slot_listiter_next (wpAny_call_entry slot_listiter_next hit.typeIs entry_listiter_next ?_ (args_listiter_next _))
  show wpAny _ _ (field (.ref it) 0 >>= _) _ _ s
  refine wpAny_bind (wpAny_field ho hd (x := .ref l) rfl ?_)
  show wpAny _ _ (if (Value.ref l == Value.none) = true then _ else _) _ _ s
  rw [if_neg (show ¬ ((Value.ref l == Value.none) = true) from Bool.false_ne_true)]
  show wpAny _ _ (field (.ref it) 1 >>= _) _ _ s
  refine wpAny_bind (wpAny_field ho hd (x := .int i 0) rfl ?_)
  show wpAny _ _ (seqItems? (.ref l) >>= _) _ _ s
  refine wpAny_bind (wpAny_seqItems hol hdl ?_)
  simp only [Int.toNat_natCast, hx]
  refine wpAny_bind (wpAny_setField ho hd (by simp) ?_)
  exact wpAny_pure ⟨_, rfl, hQ⟩
theorem upd_it : Obj.mapFields (·.setIfInBounds 1 (rawInt ((i : Int) + 1))) (itObj l i) = itObj l (i + 1) := by
  unfold itObj Obj.mapFields rawInt
  simp
theorem upd_end : Obj.mapFields (·.setIfInBounds 0 Value.none) (itObj l i) = itEnd i := by
  unfold itObj itEnd Obj.mapFields
  simp

theorem next_itemN {Q : Value → Shared → Prop} (F : Fr h₀ L s.heap m) (N : News h₀ L s.heap news) (U : UpdF it (itObj l i) news g) (hl : s.heap.IsList l items) (hx : items[i]? = some x)
    (h : ∀ h', Fr h₀ L h' m → News h₀ L h' (g (itObj l (i + 1))) → Q x { s with heap := h' }) :
    wpAny (model prog w) A (call (.builtin "next") [.ref it]) Q E s := by
  obtain ⟨pre, post, hls, hg, a, b⟩ := U.split
  have hmem : (it, itObj l i) ∈ news := by rw [hls]; exact List.mem_append_right _ (.head _)
  have hm := N (it, itObj l i) hmem
  have hit := isListIter_of hm.1
  refine call_function_entry (by decide +kernel) (by decide +kernel) kdk_entry_next (kdk_args_next _) ?_
  unfold Builtin.«next»
  refine wpAny_bind (m := someArgs "next" 1 2 _) (wpAny_of_eq (a := [Value.ref it]) (by first | rfl | kernel_rfl!) ?_)
  dsimp only
  refine wpAny_bind (wpAny_specialOf (name := Str.ofString "__next__") hit.typeIs slot_listiter_next.lookup ?_)
  refine wpAny_ite_split (fun hab => absurd hab (by decide)) (fun _ => ?_)
  refine wpAny_bind (special_item hm.1 hl hx ?_)
  have ⟨U1, U2⟩ := news_upd (f := Obj.mapFields (·.setIfInBounds 1 (rawInt ((i : Int) + 1)))) F (hls ▸ N) a b upd_it rfl
  exact wpAny_pure ⟨_, rfl, h _ U1 (hg _ ▸ U2)⟩

theorem own_stop : ownMembersOf (.type "StopIteration") [] = #[] := by
  first | rfl | decide +kernel | (unfold ownMembersOf; split <;> first | rfl | (rename_i h; revert h; decide) | simp_all)
theorem special_end {Q : Option Value → Shared → Prop} (hh : A.handled = none) (ho : s.heap.get? it = some (itObj l i)) (hl : s.heap.IsList l items) (hx : items[i]? = none)
    (hE : ∀ h' e, Heap.NewExc (s.heap.update it (Obj.mapFields (·.setIfInBounds 0 Value.none))) h' e "StopIteration" → E (.ref e) { s with heap := h' }) :
    wpAny (model prog w) A (callSpecial? (.ref it) (Str.ofString "__next__")) Q E s := by
  have hit := isListIter_of ho
  have hd : (itObj l i).data = .fields #[.ref l, .int i 0] := rfl
  obtain ⟨ol, hol, _, nl, hdl⟩ := hl
  refine wpAny_callSpecial?_slot (name := Str.ofString "__next__") hit.typeIs slot_listiter_next (wpAny_call_entry slot_listiter_next hit.typeIs entry_listiter_next ?_ (args_listiter_next _))
  show wpAny _ _ (field (.ref it) 0 >>= _) _ _ s
  refine wpAny_bind (wpAny_field ho hd (x := .ref l) rfl ?_)
  show wpAny _ _ (if (Value.ref l == Value.none) = true then _ else _) _ _ s
  rw [if_neg (show ¬ ((Value.ref l == Value.none) = true) from Bool.false_ne_true)]
  show wpAny _ _ (field (.ref it) 1 >>= _) _ _ s
  refine wpAny_bind (wpAny_field ho hd (x := .int i 0) rfl ?_)
  show wpAny _ _ (seqItems? (.ref l) >>= _) _ _ s
  refine wpAny_bind (wpAny_seqItems hol hdl ?_)
  simp only [Int.toNat_natCast, hx]
  refine wpAny_bind (wpAny_rule (wpAny_bind (wpAny_setField ho hd (by simp) ?_)))
  show wpAny _ _ (newExc (.type "StopIteration") [] >>= _) _ _ _
  refine wpAny_bind ?_
  simp only [newExc, newTuple]
  refine wpAny_bind (wpAny_newObj_type ?_ (by size_fits))
  refine wpAny_bind (m := firstArgMember _ _) (wpAny_of_eq (a := Value.none) (by first | rfl | (simp only [firstArgMember]; rfl)) ?_)
  refine wpAny_newObj_type ?_ (by size_fits)
  simp only [raiseNew]
  refine wpAny_bind (wpAny_handled ?_)
  rw [show A.in1.handled = none from hh]
  refine wpAny_bind (wpAny_pure (wpAny_throw ?_))
  refine hE _ _ ⟨fun b o hb => Heap.get?_push_of_some _ (Heap.get?_push_of_some _ hb), ?_, ?_⟩
  · refine Heap.get?_none_of_le ?_
    rw [Heap.size_push]; exact Nat.le_succ _
  · exact ⟨_, .ref (s.heap.update it (Obj.mapFields (·.setIfInBounds 0 Value.none))).objs.size, Heap.get?_push_size _ rfl, rfl, by rw [own_stop]; rfl⟩
theorem next_endN {Q : Value → Shared → Prop} (hh : A.handled = none) (F : Fr h₀ L s.heap m) (N : News h₀ L s.heap news) (U : UpdF it (itObj l i) news g) (hl : s.heap.IsList l items) (hx : items[i]? = none)
    (h : ∀ h₁ h' e, Fr h₀ L h₁ m → News h₀ L h₁ (g (itEnd i)) → Heap.NewExc h₁ h' e "StopIteration" → E (.ref e) { s with heap := h' }) :
    wpAny (model prog w) A (call (.builtin "next") [.ref it]) Q E s := by
  obtain ⟨pre, post, hls, hg, a, b⟩ := U.split
  have hmem : (it, itObj l i) ∈ news := by rw [hls]; exact List.mem_append_right _ (.head _)
  have hm := N (it, itObj l i) hmem
  have hit := isListIter_of hm.1
  refine call_function_entry (by decide +kernel) (by decide +kernel) kdk_entry_next (kdk_args_next _) ?_
  unfold Builtin.«next»
  refine wpAny_bind (m := someArgs "next" 1 2 _) (wpAny_of_eq (a := [Value.ref it]) (by first | rfl | kernel_rfl!) ?_)
  dsimp only
  refine wpAny_bind (wpAny_specialOf (name := Str.ofString "__next__") hit.typeIs slot_listiter_next.lookup ?_)
  refine wpAny_ite_split (fun hab => absurd hab (by decide)) (fun _ => ?_)
  have ⟨U1, U2⟩ := news_upd (f := Obj.mapFields (·.setIfInBounds 0 Value.none)) F (hls ▸ N) a b upd_end rfl
  exact wpAny_bind (special_end hh hm.1 hl hx fun h' e hn => h _ h' e U1 (hg _ ▸ U2) hn)
end
end Mine
end
section
open PySem PySem.W PyProof.Rows
set_option maxRecDepth 100000
set_option maxHeartbeats 0
namespace Mine
local macro_rules | `(tactic| walk_at "getAttr ref") => `(tactic| (k_here; (with_reducible show wpAny _ _ (getAttr (Value.ref _) (PySem.Str.ofString "__contains__") _) _ _ _); refine' getattr_containsN ?k1 ?k2 ?k3 ?_; (case k1 => k_asm); (case k2 => k_asm); (case k3 => assumption); k_whole; intro x' h' F' N' l1; (try k_lt l1); (try k_sweep)))
local macro_rules | `(tactic| walk_at "call builtin:iter") => `(tactic| (k_here; (with_reducible show wpAny _ _ (call (Value.builtin "iter") [Value.ref _]) _ _ _); refine' iter_listN ?k1 ?k2 ?k3 ?_; (case k1 => k_asm); (case k2 => k_asm); (case k3 => is_list); k_whole; intro x' h' F' N' l1; (try k_lt l1); (try k_sweep)))
local macro_rules | `(tactic| is_list) => `(tactic| exact Fr.lst (by assumption) (Fr.lst (by assumption) (by assumption)))
local macro_rules | `(tactic| k_room) => `(tactic| ktr_room)
abbrev instFF (d bm it : Addr) : Obj := { cls := Value.ref 96, dict := some d, slots := #[some (Value.ref bm), some (Value.ref it)] }
local macro_rules | `(tactic| walk_at "call builtin:next") => `(tactic| (k_here; (with_reducible show wpAny _ _ (call (Value.builtin "next") [Value.ref _]) _ _ _); refine' next_itemN ?k1 ?k2 ?k3 ?k4 ?k5 ?_; (case k1 => k_asm); (case k2 => k_asm); (case k3 => k_updF); (case k4 => is_list); (case k5 => assumption); k_whole; intro h' F' N'; (try dsimp only at N'); (try k_sweep)))
local macro_rules | `(tactic| walk_at "call builtin:next") => `(tactic| (k_here; (with_reducible show wpAny _ _ (call (Value.builtin "next") [Value.ref _]) _ _ _); refine' next_endN ?k0 ?k1 ?k2 ?k3 ?k4 ?k5 ?_; (case k0 => exact rfl); (case k1 => k_asm); (case k2 => k_asm); (case k3 => k_updF); (case k4 => is_list); (case k5 => assumption); k_whole; intro h1' h' e' F' N' x'; (try dsimp only at N')))
local macro_rules | `(tactic| walk_at "callWith ref") => `(tactic| (k_here; (with_reducible show wpAny _ _ (callWith _ (Value.ref _) _ (backTo _ (starEach (_ :: _) _)) []) _ _ _); k_dflt (refine' callWith_bmN ?k1 ?k2 ?_; (case k1 => k_asm); (case k2 => k_mem); k_whole)))
local macro_rules | `(tactic| walk_at "And") => `(tactic| ((with_reducible show BAt _ _ _ ∧ _); k_dflt (refine ⟨bat_of (by k_asm) (by k_mem), ?_⟩); (try dsimp only [List.nil_append, List.cons_append])))
local macro_rules | `(tactic| walk_at "call ref") => `(tactic| (k_here; (with_reducible show wpAny _ _ (call (Value.ref _) [Value.str _ _]) _ _ _); k_dflt (refine' call_containsN ?k1 ?k2 ?k3 ?k4 ?_; (case k1 => k_asm); (case k2 => k_mem); (case k3 => is_list); (case k4 => assumption); k_whole)))
local macro_rules | `(tactic| walk_at "exec While") => `(tactic| refine hold_ ?_)
theorem ff_next {w : World} {loose : List Str} {mean : ExcName → Option Value} {mg mb : Str → Option Value}
  {dp un : Nat} {gd : Option (List Code)} {cn : Str} {cs : Scope} {a : Addr} {ccd : Value} {cl : List (Str × Addr)} {outer : List Env} {A₀ : Around} {base h₀ : Heap} {L : Addr} {m : Str → Option Value} {s : Shared} {Q E : Value → Shared → Prop}
  {S it x d bm fl sk : Addr} {oS : Obj} {i : Nat} {vs ws : List Value} {xs ys : List Str}
  (B : Below A₀ base outer h₀) (F : Fr h₀ L s.heap m) (X : (hd.heap_39 w.params).In h₀) (T : Top hd.view_39 loose mean mg mb h₀) (hk : cs.kind = .function) (hdp : dp + 2 < recursionLimit) (hun : un + 32 < cLine)
  (N : News h₀ L s.heap [(S, oS), (it, itObj fl i), (x, instFF d bm it), (d, dictOf [] 0), (bm, boundIn sk)])
  (l1 : @LT.lt Nat _ bm d) (l2 : @LT.lt Nat _ d x) (l3 : @LT.lt Nat _ x it) (l4 : @LT.lt Nat _ it S)
  (hl : h₀.IsList fl vs.toArray) (hs : Strs vs xs) (hl2 : h₀.IsList sk ws.toArray) (hs2 : Strs ws ys)
  (hret : ∀ j v h' tk', i ≤ j → vs[j]? = some v → (∃ y, xs[j]? = some y ∧ ys.any (· == y) = false) → (∀ k z, i ≤ k → k < j → xs[k]? = some z → ys.any (· == z) = true) → Fr h₀ L h' m → News h₀ L h' [(S, oS), (it, itObj fl (j + 1)), (x, instFF d bm it), (d, dictOf [] 0), (bm, boundIn sk)] → Q v { s with heap := h', toks := tk' })
  (hexc : (∀ k z, i ≤ k → xs[k]? = some z → ys.any (· == z) = true) → ∀ e h' tk' n, RaisedN base (envX cn cs L a ccd cl :: outer) e (.type "StopIteration") [(S, oS), (it, itEnd n), (x, instFF d bm it), (d, dictOf [] 0), (bm, boundIn sk)] h' → h₀.UpToSlots h' → E (.ref e) { s with heap := h', toks := tk' }) :
  wpAny (model Challenge.rw_ij0195_01.row.prog w) (ktrTop dp un gd cn cs L a ccd cl outer) (call (.ref 92) [.ref x]) Q E s := by
  w_strict (
    (revert X; k_fill; intro X)
    refine wpAny_call ?_
    cell_enter
    k_steps
    refine of_hold ?_
    refine' while_led (x := Str.ofString "item") (fun i => [(S, oS), (it, itObj fl i), (x, instFF d bm it), (d, dictOf [] 0), (bm, boundIn sk)]) (fun k => i ≤ k ∧ ∀ j z, i ≤ j → j < k → xs[j]? = some z → ys.any (· == z) = true) (max i xs.length) i ?h1 ?h2 ?h3 ?h4 ?h5
    (case h1 => k_asm)
    (case h2 => k_asm)
    (case h3 => exact ⟨Nat.le_refl _, fun j z a b => absurd (Nat.lt_of_le_of_lt a b) (Nat.lt_irrefl _)⟩)
    (case h4 => exact Nat.le_max_left _ _)
    (case h5 =>
      intro k u h2 tk2 hk2 hP F2 N2
      obtain ⟨hik, hP⟩ := hP
      (try dsimp only)
      (try k_fold)
      rcases hx : vs.toArray[k]? with _ | v
      · have hlen : xs.length ≤ k := by
          have := strs_length hs
          simp at hx
          omega
        k_steps
        refine hexc (fun j z hj hz => hP j z hj ?_ hz) _ _ _ k (by assumption) ((Heap.UpToSlots.of_keeps (Fr.keep (by assumption))).trans (by assumption))
        exact Nat.lt_of_lt_of_le (List.getElem?_eq_some_iff.mp hz).1 hlen
      · have hx' : vs[k]? = some v := by simpa using hx
        obtain ⟨y, t, hy, e⟩ := strs_get hs hx'
        subst e
        have hlt : k < xs.length := (List.getElem?_eq_some_iff.mp hy).1
        k_steps
        · refine ⟨_, _, fun _ => some (.str y t), Nat.lt_of_lt_of_le hlt (Nat.le_max_right _ _), ⟨Nat.le_succ_of_le hik, fun j z h1 h2 hz => ?_⟩, rfl, fr_over (by assumption), by assumption⟩
          rcases Nat.lt_succ_iff_lt_or_eq.mp h2 with h3 | h3
          · exact hP j z h1 h3 hz
          · subst h3
            rw [hy] at hz
            cases hz
            assumption
        · dsimp only
          k_steps
          dsimp only [TurnEnd]
          k_steps
          exact hret k (.str y t) _ _ hik hx' ⟨y, hy, by assumption⟩ hP (by assumption) (by assumption)))
end Mine
end
section
open PySem PySem.W PyProof.Rows PySem.Calls
set_option maxRecDepth 100000
set_option maxHeartbeats 0
namespace Mine
def lstObj (acc : Array Value) (c : Nat) : Obj := { cls := .type "list", dict := none, data := .seq acc c, slots := #[] }
def keepP (ys : List Str) : Value → Bool
  | .str y _ => !(ys.any (· == y))
  | _ => true
theorem keep_next {ys : List Str} : ∀ {n i j : Nat} {vs : List Value} {xs : List Str} {v : Value}, j - i = n → i ≤ j → Strs vs xs → vs[j]? = some v → (∃ y, xs[j]? = some y ∧ ys.any (· == y) = false) → (∀ k z, i ≤ k → k < j → xs[k]? = some z → ys.any (· == z) = true) →
    (vs.drop i).filter (keepP ys) = v :: (vs.drop (j + 1)).filter (keepP ys) := by
  intro n
  induction n with
  | zero =>
    intro i j vs xs v hn hij hs hv hy hk
    have e : i = j := by omega
    subst e
    obtain ⟨y, hxy, hin⟩ := hy
    obtain ⟨y', t, hxy', rfl⟩ := strs_get hs hv
    rw [hxy] at hxy'; cases hxy'
    have hlt := (List.getElem?_eq_some_iff.mp hv).1
    rw [List.drop_eq_getElem_cons hlt]
    have hvv : vs[i] = .str y t := (List.getElem?_eq_some_iff.mp hv).2
    rw [hvv, List.filter_cons_of_pos (by simp only [keepP]; rw [hin]; rfl)]
  | succ n ih =>
    intro i j vs xs v hn hij hs hv hy hk
    have hlt' := (List.getElem?_eq_some_iff.mp hv).1
    have hlt : i < vs.length := by omega
    rw [List.drop_eq_getElem_cons hlt]
    obtain ⟨z, t, hz, e⟩ := strs_get hs (List.getElem?_eq_getElem hlt)
    have hin := hk i z (Nat.le_refl _) (by omega) hz
    rw [e, List.filter_cons_of_neg (by simp only [keepP]; rw [hin]; decide)]
    exact ih (by omega) (by omega) hs hv hy fun k z h1 h2 h3 => hk k z (by omega) h2 h3
theorem keep_end {ys : List Str} {vs : List Value} {xs : List Str} (hs : Strs vs xs) : ∀ {n i : Nat}, vs.length - i = n → (∀ k z, i ≤ k → xs[k]? = some z → ys.any (· == z) = true) → (vs.drop i).filter (keepP ys) = [] := by
  intro n
  induction n with
  | zero => intro i hn _; rw [List.drop_eq_nil_of_le (by omega)]; rfl
  | succ n ih =>
    intro i hn hk
    have hlt : i < vs.length := by omega
    rw [List.drop_eq_getElem_cons hlt]
    obtain ⟨z, t, hz, e⟩ := strs_get hs (List.getElem?_eq_getElem hlt)
    rw [e, List.filter_cons_of_neg (by simp only [keepP]; rw [hk i z (Nat.le_refl _) hz]; decide)]
    exact ih (by omega) fun k z h1 h2 => hk k z (by omega) h2

abbrev ledFF (S it x d bm sk : Addr) (oS oI : Obj) : List (Addr × Obj) := [(S, oS), (it, oI), (x, instFF d bm it), (d, dictOf [] 0), (bm, boundIn sk)]
section
variable {w : World} {loose : List Str} {mean : ExcName → Option Value} {mg mb : Str → Option Value}
  {dp un : Nat} {gd : Option (List Code)} {cn : Str} {cs : Scope} {a : Addr} {ccd : Value} {cl : List (Str × Addr)} {outer : List Env} {A₀ : Around} {base h₀ : Heap} {L : Addr} {m : Str → Option Value}
  {S it x d bm fl sk : Addr} {vs ws : List Value} {xs ys : List Str}

theorem ff_pyNext {s : Shared} {Q : Option Value → Shared → Prop} {E : Value → Shared → Prop} {oS : Obj} {i : Nat}
  (B : Below A₀ base outer h₀) (F : Fr h₀ L s.heap m) (X : (hd.heap_39 w.params).In h₀) (T : Top hd.view_39 loose mean mg mb h₀) (hk : cs.kind = .function) (hdp : dp + 2 < recursionLimit) (hun : un + 32 < cLine)
  (N : News h₀ L s.heap (ledFF S it x d bm sk oS (itObj fl i)))
  (l1 : @LT.lt Nat _ bm d) (l2 : @LT.lt Nat _ d x) (l3 : @LT.lt Nat _ x it) (l4 : @LT.lt Nat _ it S)
  (hl : h₀.IsList fl vs.toArray) (hs : Strs vs xs) (hl2 : h₀.IsList sk ws.toArray) (hs2 : Strs ws ys)
  (hret : ∀ j v h' tk', i ≤ j → vs[j]? = some v → (∃ y, xs[j]? = some y ∧ ys.any (· == y) = false) → (∀ k z, i ≤ k → k < j → xs[k]? = some z → ys.any (· == z) = true) → Fr h₀ L h' m → News h₀ L h' (ledFF S it x d bm sk oS (itObj fl (j + 1))) → Q (some v) { s with heap := h', toks := tk' })
  (hexc : (∀ k z, i ≤ k → xs[k]? = some z → ys.any (· == z) = true) → ∀ e h' tk' n, RaisedN base (envX cn cs L a ccd cl :: outer) e (.type "StopIteration") (ledFF S it x d bm sk oS (itEnd n)) h' → h₀.UpToSlots h' → Q none { s with heap := h', toks := tk' }) :
  wpAny (model Challenge.rw_ij0195_01.row.prog w) (ktrTop dp un gd cn cs L a ccd cl outer) (pyNext (.ref x)) Q E s := by
  w_strict (
    (revert X; k_fill; intro X)
    (have I : InstAt s.heap x (instFF d bm it) 96 (some (dictOf [] 0)) := InstAt.of_news N (.tail _ (.tail _ (.head _))) (.tail _ (.tail _ (.tail _ (.head _)))))
    refine owit_next (K := hd.heap_39 w.params) (C := 96) (f := 92) F X I ?hs ?hf ?_
    (case hs => k_is)
    (case hf => k_is)
    skip)
  refine ff_next B F X T hk hdp hun N l1 l2 l3 l4 hl hs hl2 hs2 (fun j v h' tk' => hret j v h' tk') fun hall e h' tk' n R U => ?_
  obtain ⟨Bh, a0, hB, hlN, hfl⟩ := id R
  obtain ⟨ob, hob, hobc⟩ := hfl.there
  have hT : ({ s with heap := h', toks := tk' } : Shared).TypeIs (.ref e) "StopIteration" := (show ∃ o, h'.get? e = some o ∧ o.cls = .type "StopIteration" from ⟨ob, hob, hobc⟩)
  unfold OwitStop
  refine wpAny_isInstance hT (b := true) isSubtype_stop ?_
  rw [if_pos rfl]
  exact hexc hall e h' tk' n R U

theorem ff_extend {R : Result → Shared → Prop}
  (B : Below A₀ base outer h₀) (X : (hd.heap_39 w.params).In h₀) (T : Top hd.view_39 loose mean mg mb h₀) (hk : cs.kind = .function) (hdp : dp + 2 < recursionLimit) (hun : un + 33 < cLine)
  (l1 : @LT.lt Nat _ bm d) (l2 : @LT.lt Nat _ d x) (l3 : @LT.lt Nat _ x it) (l4 : @LT.lt Nat _ it S)
  (hl : h₀.IsList fl vs.toArray) (hs : Strs vs xs) (hl2 : h₀.IsList sk ws.toArray) (hs2 : Strs ws ys) (hsz : vs.length ≤ 100000) :
  ∀ (n i : Nat) (s : Shared) (acc : Array Value) (c : Nat), vs.length - i ≤ n → acc.size ≤ i → Fr h₀ L s.heap m → News h₀ L s.heap (ledFF S it x d bm sk (lstObj acc c) (itObj fl i)) →
  (∀ c' e h' tk' k, RaisedN base (envX cn cs L a ccd cl :: outer) e (.type "StopIteration") (ledFF S it x d bm sk (lstObj (acc ++ ((vs.drop i).filter (keepP ys)).toArray) c') (itEnd k)) h' → h₀.UpToSlots h' → R (.ok (.ret .none)) { s with heap := h', toks := tk' }) →
  codeAny (model Challenge.rw_ij0195_01.row.prog w) (ktrTop dp un gd cn cs L a ccd cl outer) (.builtin "list.extend.loop" ⟨[.ref S, .ref x, .none], []⟩) R s := by
  intro n
  induction n with
  | zero =>
    intro i s acc c hn hacc F N hR
    refine codeAny_builtin PySem.F.entry_extend_loop ?_
    rw [Around.under_plainId PySem.F.plain_extend_loop _]
    show wpAny _ (ktrTop dp (un + 1) gd cn cs L a ccd cl outer) (pyNext (.ref x) >>= _) _ _ s
    refine wpAny_bind (ff_pyNext B F X T hk hdp (by omega) N l1 l2 l3 l4 hl hs hl2 hs2 (fun j v h' tk' h1 h2 h3 h4 F' N' => ?_) fun hall e h' tk' k RN U => ?_)
    · have := (List.getElem?_eq_some_iff.mp h2).1
      omega
    · refine wpAny_pure ?_
      refine hR c e h' tk' k ?_ U
      rw [keep_end hs rfl hall]
      simpa using RN
  | succ n ih =>
    intro i s acc c hn hacc F N hR
    refine codeAny_builtin PySem.F.entry_extend_loop ?_
    rw [Around.under_plainId PySem.F.plain_extend_loop _]
    show wpAny _ (ktrTop dp (un + 1) gd cn cs L a ccd cl outer) (pyNext (.ref x) >>= _) _ _ s
    refine wpAny_bind (ff_pyNext B F X T hk hdp (by omega) N l1 l2 l3 l4 hl hs hl2 hs2 (fun j v h' tk' h1 h2 h3 h4 F' N' => ?_) fun hall e h' tk' k RN U => ?_)
    · have hj := (List.getElem?_eq_some_iff.mp h2).1
      have e1 := keep_next rfl h1 hs h2 h3 h4
      have hS := (N' (S, lstObj acc c) (.head _)).1
      show wpAny _ _ (Builtin.List.listUpdate (.ref S) (·.push v) >>= _) _ _ _
      refine wpAny_bind ?_
      show wpAny _ _ (updateSeq S (·.push v)) _ _ _
      refine wpAny_updateSeq (hz := by rw [sizeLine_eq]; omega) (_hz' := by rw [sizeLine_eq, Array.size_push]; omega) hS rfl ?_
      have ⟨U1, U2⟩ := news_upd (pre := []) (f := Obj.mapSeq (·.push v)) (o' := lstObj (acc.push v) (c + 1)) F' N' (fun _ h => nomatch h) (fun p hp => by
        rcases List.mem_cons.mp hp with rfl | hp
        · exact Nat.ne_of_lt l4
        · rcases List.mem_cons.mp hp with rfl | hp
          · exact Nat.ne_of_lt (Nat.lt_trans l3 l4)
          · rcases List.mem_cons.mp hp with rfl | hp
            · exact Nat.ne_of_lt (Nat.lt_trans l2 (Nat.lt_trans l3 l4))
            · have := List.mem_singleton.mp hp; subst this
              exact Nat.ne_of_lt (Nat.lt_trans l1 (Nat.lt_trans l2 (Nat.lt_trans l3 l4)))) (by simp [lstObj, Obj.mapSeq]) rfl
      refine wpAny_pure ⟨plainId_quiet PySem.F.plain_extend_loop _, ?_⟩
      refine ih (j + 1) _ (acc.push v) (c + 1) (by omega) (by rw [Array.size_push]; omega) U1 U2 fun c' e h'' tk'' k RN U => ?_
      refine hR c' e h'' tk'' k ?_ U
      rw [e1]
      simpa using RN
    · refine wpAny_pure ?_
      refine hR c e h' tk' k ?_ U
      rw [keep_end hs rfl hall]
      simpa using RN
end
end Mine
end
section
open PySem PySem.W PyProof.Rows PySem.Calls
set_option maxRecDepth 100000
set_option maxHeartbeats 0
namespace Mine
section
variable {w : World} {loose : List Str} {mean : ExcName → Option Value} {mg mb : Str → Option Value}
  {dp un : Nat} {gd : Option (List Code)} {cn : Str} {cs : Scope} {a : Addr} {ccd : Value} {cl : List (Str × Addr)} {outer : List Env} {A₀ : Around} {base h₀ : Heap} {L : Addr} {m : Str → Option Value}
  {S it x d bm fl sk : Addr} {vs ws : List Value} {xs ys : List Str}
local macro_rules | `(tactic| k_room) => `(tactic| ktr_room)
theorem ff_iter {s : Shared} {Q E : Value → Shared → Prop} {news : List (Addr × Obj)}
  (B : Below A₀ base outer h₀) (F : Fr h₀ L s.heap m) (X : (hd.heap_39 w.params).In h₀) (T : Top hd.view_39 loose mean mg mb h₀) (hk : cs.kind = .function) (hdp : dp + 2 < recursionLimit) (hun : un + 32 < cLine)
  (N : News h₀ L s.heap news)
  (hret : ∀ h' tk', Fr h₀ L h' m → News h₀ L h' news → Q (.ref x) { s with heap := h', toks := tk' }) :
  wpAny (model Challenge.rw_ij0195_01.row.prog w) (ktrTop dp un gd cn cs L a ccd cl outer) (call (.ref 85) [.ref x]) Q E s := by
  w_strict (
    (revert X; k_fill; intro X)
    refine wpAny_call ?_
    cell_enter
    k_steps
    exact hret _ _ (by assumption) (by assumption))

theorem ledS_upd {h : Heap} {acc acc' : Array Value} {c c' : Nat} {oI : Obj} {f : Array Value → Array Value} (F : Fr h₀ L h m) (N : News h₀ L h (ledFF S it x d bm sk (lstObj acc c) oI))
  (l1 : @LT.lt Nat _ bm d) (l2 : @LT.lt Nat _ d x) (l3 : @LT.lt Nat _ x it) (l4 : @LT.lt Nat _ it S) (e : Obj.mapSeq f (lstObj acc c) = lstObj acc' c') :
  Fr h₀ L (h.update S (Obj.mapSeq f)) m ∧ News h₀ L (h.update S (Obj.mapSeq f)) (ledFF S it x d bm sk (lstObj acc' c') oI) :=
  news_upd (pre := []) (f := Obj.mapSeq f) (o' := lstObj acc' c') F N (fun _ h => nomatch h) (fun p hp => by
    rcases List.mem_cons.mp hp with rfl | hp
    · exact Nat.ne_of_lt l4
    · rcases List.mem_cons.mp hp with rfl | hp
      · exact Nat.ne_of_lt (Nat.lt_trans l3 l4)
      · rcases List.mem_cons.mp hp with rfl | hp
        · exact Nat.ne_of_lt (Nat.lt_trans l2 (Nat.lt_trans l3 l4))
        · have := List.mem_singleton.mp hp; subst this
          exact Nat.ne_of_lt (Nat.lt_trans l1 (Nat.lt_trans l2 (Nat.lt_trans l3 l4)))) e rfl

theorem ff_list {s : Shared} {Q E : Value → Shared → Prop}
  (B : Below A₀ base outer h₀) (F : Fr h₀ L s.heap m) (X : (hd.heap_39 w.params).In h₀) (T : Top hd.view_39 loose mean mg mb h₀) (hk : cs.kind = .function) (hdp : dp + 2 < recursionLimit) (hun : un + 40 < cLine)
  (N : News h₀ L s.heap [(it, itObj fl 0), (x, instFF d bm it), (d, dictOf [] 0), (bm, boundIn sk)])
  (l1 : @LT.lt Nat _ bm d) (l2 : @LT.lt Nat _ d x) (l3 : @LT.lt Nat _ x it)
  (hl : h₀.IsList fl vs.toArray) (hs : Strs vs xs) (hl2 : h₀.IsList sk ws.toArray) (hs2 : Strs ws ys) (hsz : vs.length ≤ 100000)
  (hQ : ∀ S c e h' tk' k, RaisedN base (envX cn cs L a ccd cl :: outer) e (.type "StopIteration") (ledFF S it x d bm sk (lstObj (vs.filter (keepP ys)).toArray c) (itEnd k)) h' → h₀.UpToSlots h' → h₀.get? S = none → Q (.ref S) { s with heap := h', toks := tk' }) :
  wpAny (model Challenge.rw_ij0195_01.row.prog w) (ktrTop dp un gd cn cs L a ccd cl outer) (call (.type "list") [.ref x]) Q E s := by
  have hf : ∃ K, K = hd.heap_39 w.params ∧ findIn K (.ref 96) "__iter__" = some (some (.ref 85)) ∧ isFn K (.ref 85) = true ∧ findIn K (.ref 96) "__next__" = some (some (.ref 92)) ∧ findIn K (.ref 96) "__len__" = some none ∧ findIn K (.ref 96) "__length_hint__" = some none := by
    w_strict (
      (revert X; k_fill; intro X)
      refine ⟨hd.heap_39 w.params, rfl, ?_, ?_, ?_, ?_, ?_⟩
      (all_goals k_is))
  obtain ⟨K, rfl, f1, f2, f3, f4, f5⟩ := hf
  refine callType_codes (Q₁ := fun obj s₁ => obj = .ref s.heap.objs.size ∧ s₁ = { s with heap := s.heap.push { cls := .type "list", data := .seq #[] } }) PySem.F.called_list (PySem.F.typeCall_list_1 _) PySem.F.entry_list_init (code_list_new _ ⟨rfl, rfl⟩) fun obj s₁ h₁ => ?_
  obtain ⟨rfl, rfl⟩ := h₁
  have hS : (s.heap.push { cls := .type "list", data := .seq #[] }).get? s.heap.objs.size = some (lstObj #[] 0) := Heap.get?_push_size _ rfl
  have l4 : @LT.lt Nat _ it s.heap.objs.size := Heap.lt_size (N _ (.head _)).1
  have F1 : Fr h₀ L (s.heap.push { cls := .type "list", data := .seq #[] }) m := F.push _
  have N1 : News h₀ L (s.heap.push { cls := .type "list", data := .seq #[] }) (ledFF s.heap.objs.size it x d bm sk (lstObj #[] 0) (itObj fl 0)) := News.push F N _ rfl
  refine ⟨⟨_, hS, rfl⟩, PySem.F.args_list_init_2 _ _, ?_⟩
  generalize s.heap.objs.size = S at *
  show wpAny _ (ktrTop dp (un + 2) gd cn cs L a ccd cl outer) (do let old ← Builtin.List.listItems (.ref S); Builtin.List.listUpdate (.ref S) (fun _ => #[]); letGo old.toList.reverse; Builtin.List.listExtendWith (.ref S) (.ref x) .none) _ _ _
  refine wpAny_bind ?_
  unfold Builtin.List.listItems
  refine wpAny_bind (wpAny_seqItems hS rfl (wpAny_pure ?_))
  show wpAny _ _ (updateSeq S (fun _ => #[]) >>= fun _ => letGo (#[] : Array Value).toList.reverse >>= fun _ => Builtin.List.listExtendWith (.ref S) (.ref x) .none) _ _ _
  refine wpAny_bind (wpAny_updateSeq hS rfl ?_)
  have ⟨F2, N2⟩ := ledS_upd (f := fun _ => #[]) (acc' := #[]) (c' := 0) F1 N1 l1 l2 l3 l4 (by simp [lstObj, Obj.mapSeq])
  refine wpAny_bind (wpAny_letGo ?_)
  have I2 : InstAt _ x (instFF d bm it) 96 (some (dictOf [] 0)) := InstAt.of_news N2 (.tail _ (.tail _ (.head _))) (.tail _ (.tail _ (.tail _ (.head _))))
  unfold Builtin.List.listExtendWith
  refine wpAny_bind (I2.type.here ?_)
  have hSx : S ≠ x := Nat.ne_of_gt (Nat.lt_trans l3 l4)
  have h1 : Builtin.List.listSameRef (.ref S) (.ref x) = false := by simp [Builtin.List.listSameRef, hSx]
  have h2 : (Value.ref 96 == Value.type "list") = false := by rfl
  have h3 : (Value.ref 96 == Value.type "tuple") = false := by rfl
  simp only [h1, h2, h3, Bool.or_false, Bool.false_eq_true, if_false]
  refine wpAny_bind (owit_iter F2 X I2 f1 f2 (ff_iter B F2 X T hk hdp (by omega) N2 fun h3 tk3 F3 N3 => ?_))
  have I3 : InstAt h3 x (instFF d bm it) 96 (some (dictOf [] 0)) := InstAt.of_news N3 (.tail _ (.tail _ (.head _))) (.tail _ (.tail _ (.tail _ (.head _))))
  refine owit_it F3 X I3 f3 ?_
  refine wpAny_bind (wpAny_holding ?_)
  unfold Builtin.List.listLengthHint
  refine wpAny_bind (wpAny_bind (I3.type.here ((looks_findIn (X.keeps F3.keep) f4).here ?_)))
  show wpAny _ _ (specialOf (Value.ref x) (Str.ofString "__length_hint__") >>= _) _ _ _
  refine wpAny_bind (wpAny_bind (I3.type.here ((looks_findIn (X.keeps F3.keep) f5).here ?_)))
  refine wpAny_pure ?_
  show wpAny _ _ (rule "list.extend.makes-room" >>= fun _ => Builtin.List.listTouch (.ref S) >>= fun _ => again (.builtin "list.extend.loop" ⟨[.ref S, .ref x, .none], []⟩)) _ _ _
  refine wpAny_bind (wpAny_rule ?_)
  refine wpAny_bind ?_
  show wpAny _ _ (updateSeq S (·.push .none) >>= fun _ => updateSeq S (·.pop)) _ _ _
  refine wpAny_bind (wpAny_updateSeq (N3 _ (.head _)).1 rfl ?_)
  have ⟨F4, N4⟩ := ledS_upd (f := (·.push Value.none)) (acc' := #[Value.none]) (c' := 1) F3 N3 l1 l2 l3 l4 (by simp [lstObj, Obj.mapSeq])
  refine wpAny_updateSeq (N4 _ (.head _)).1 rfl ?_
  have ⟨F5, N5⟩ := ledS_upd (f := (·.pop)) (acc' := #[]) (c' := 2) F4 N4 l1 l2 l3 l4 (by simp [lstObj, Obj.mapSeq])
  refine wpAny_pure ⟨plainId_quiet PySem.F.plain_extend_loop _, ?_⟩
  refine ff_extend (un := un + 1) B X T hk hdp (by omega) l1 l2 l3 l4 hl hs hl2 hs2 hsz vs.length 0 _ #[] 2 (by omega) (Nat.le_refl _) F5 N5 fun c' e h' tk' k RN U => ?_
  refine ⟨rfl, hQ S c' e h' tk' k ?_ U (N1 _ (.head _)).2.2⟩
  simpa using RN
end
end Mine
end
section
open PySem PySem.W PyProof.Rows
set_option maxRecDepth 100000
set_option maxHeartbeats 0
namespace Mine
/-- everything stands as it stood, but the frames' own objects up to their slots -/
def Up (fr : List Addr) (h h' : Heap) : Prop := ∀ b o, h.get? b = some o → (b ∉ fr → h'.get? b = some o) ∧ (b ∈ fr → ∃ sl, h'.get? b = some { o with slots := sl })
theorem up_of {A : Around} {base h h' : Heap} {env : Env} {outer l : List Env} {e : Addr} {cls : Value} {news : List (Addr × Obj)} (B : Below A base (env :: outer) h)
    (R : RaisedN (hideAll h ((env :: outer).filterMap (·.frame))) l e cls news h') (U : h.UpToSlots h') : Up ((env :: outer).filterMap (·.frame)) h h' := by
  obtain ⟨Bh, a0, hB, hlN, hfl⟩ := R
  intro b o ho
  refine ⟨fun hn => hfl.1 _ _ (hB _ _ (hideAll_get _ ho hn)), fun hm => ?_⟩
  obtain ⟨o', ho', hd⟩ := (B.frames.mem hm).2
  rw [ho] at ho'; cases ho'
  exact U b o ho hd
theorem raisedN_get {base h' : Heap} {l : List Env} {e : Addr} {cls : Value} {news : List (Addr × Obj)} (R : RaisedN base l e cls news h') {p : Addr × Obj} (hp : p ∈ news) : h'.get? p.1 = some p.2 := by
  obtain ⟨Bh, a0, hB, hlN, hfl⟩ := R
  exact hfl.1 _ _ (hlN p hp).1
local macro_rules | `(tactic| walk_at "getAttr ref") => `(tactic| (k_here; (with_reducible show wpAny _ _ (getAttr (Value.ref _) (PySem.Str.ofString "__contains__") _) _ _ _); refine' getattr_containsN ?k1 ?k2 ?k3 ?_; (case k1 => k_asm); (case k2 => k_asm); (case k3 => assumption); k_whole; intro x' h' F' N' l1; (try k_lt l1); (try k_sweep)))
local macro_rules | `(tactic| walk_at "call builtin:iter") => `(tactic| (k_here; (with_reducible show wpAny _ _ (call (Value.builtin "iter") [Value.ref _]) _ _ _); refine' iter_listN ?k1 ?k2 ?k3 ?_; (case k1 => k_asm); (case k2 => k_asm); (case k3 => is_list); k_whole; intro x' h' F' N' l1; (try k_lt l1); (try k_sweep)))
local macro_rules | `(tactic| is_list) => `(tactic| exact Fr.lst (by assumption) (Fr.lst (by assumption) (by assumption)))
local macro_rules | `(tactic| k_room) => `(tactic| ktr_room)
theorem filter_c {w : World} {loose : List Str} {mean : ExcName → Option Value} {mg mb : Str → Option Value}
  {dp un : Nat} {gd : Option (List Code)} {cn : Str} {cs : Scope} {a : Addr} {ccd : Value} {cl : List (Str × Addr)} {outer : List Env} {A₀ : Around} {base h₀ : Heap} {L : Addr} {m : Str → Option Value} {s : Shared} {Q E : Value → Shared → Prop}
  {fl sk : Addr} {vs ws : List Value} {xs ys : List Str}
  (B : Below A₀ base outer h₀) (F : Fr h₀ L s.heap m) (X : (hd.heap_39 w.params).In h₀) (T : Top hd.view_39 loose mean mg mb h₀) (hk : cs.kind = .function) (hdp : dp + 8 < recursionLimit) (hun : un + 64 < cLine)
  (hl : s.heap.IsList fl vs.toArray) (hs : Strs vs xs) (hl2 : s.heap.PlainList sk ws.toArray) (hs2 : Strs ws ys) (hsz : vs.length ≤ 100000)
  (hret : ∀ (D : Addr) (c : Nat) (h' : Heap) (tk' : Nat), Up (L :: outer.filterMap (·.frame)) s.heap h' → h'.get? D = some (lstObj (vs.filter (keepP ys)).toArray c) → s.heap.get? D = none → Q (.ref D) { s with heap := h', toks := tk' }) :
  wpAny (model Challenge.rw_ij0195_01.row.prog w) (ktrTop dp un gd cn cs L a ccd cl outer) (call (.ref 107) [.ref fl, .ref sk]) Q E s := by
  w_strict (
    (revert X; k_fill; intro X)
    refine wpAny_call ?_
    refine' callP ?k1 ?k2 ?k3 ?k5 ?kA ?kF ?kK ?k6 ?k7 ?k8 ?k9 ?kB ?_ ?c2 ?c3 ?c4 ?c5
    (case kA => exact rfl); (case kF => exact rfl); (case kK => assumption); (case k1 => k_asm); (case k2 => k_asm); (case k3 => k_asm); (case k5 => k_asm); (case k6 => k_is); (case k7 => k_is); (case k8 => ktr_room); (case k9 => exact BindsTo.of_eq rfl); (case c5 => decide); (case kB => exact locs rfl); (case c2 => exact rfl); (case c3 => exact rfl); (case c4 => exact rfl)
    k_whole
    intro L' h' F' N' B'' X' T'
    have hl2' := hl2.isList
    have B' := below_max B''
    have Up' := fun (l : List Env) (e : Addr) (cls : Value) (news : List (Addr × Obj)) (h2 : Heap) (R : RaisedN _ l e cls news h2) (U : s.heap.UpToSlots h2) => up_of B'' R U
    clear B''
    (try dsimp only)
    (try k_lift B')
    (try k_fold)
    k_steps
    with_unfolding_all refine' ff_list ?j1 ?j2 ?j3 ?j4 ?j5 ?j6 ?j7 ?j8 ?l1 ?l2 ?l3 ?j9 ?j10 ?j11 ?j12 ?j13 ?_
    (case j1 => exact B')
    (case j2 => k_asm)
    (case j3 => k_asm)
    (case j4 => k_asm)
    (case j5 => exact rfl)
    (case j6 => ktr_room)
    (case j7 => ktr_units)
    (case j8 => k_asm)
    (case l1 => omega)
    (case l2 => omega)
    (case l3 => omega)
    (case j9 => exact hl)
    (case j10 => exact hs)
    (case j11 => exact hl2')
    (case j12 => exact hs2)
    (case j13 => exact hsz)
    intro S c e h3 tk3 k RN U hf
    have hS := raisedN_get RN (.head _)
    have hU := Up' _ _ _ _ _ RN U
    k_steps
    exact hret S c h3 tk3 hU hS hf)
end Mine
end
section
open PySem PySem.W PyProof.Rows PySem.Calls
set_option maxRecDepth 100000
set_option maxHeartbeats 0
namespace Mine
/-- where a comprehension takes its items from -/
def Src (prog : Program) (w : World) (A : Around) (xv : Value) (s₁ : Shared) (n : Nat) (P : Nat → Value → Prop) : Prop :=
  ∃ (fp : List Addr) (St : Nat → Heap → Prop) (o : Obj), (∀ (Q : Value → Shared → Prop) (E : Value → Shared → Prop), Q (.ref s₁.heap.objs.size) { s₁ with heap := s₁.heap.push o } → wpAny (model prog w) A (pyIter xv) Q E s₁) ∧
    Walks prog w A s₁.heap.objs.size fp [s₁.heap.objs.size] n P St ∧ St 0 (s₁.heap.push o) ∧ ∀ b ∈ fp, b < s₁.heap.objs.size + 1
/-- what is to be shown where a comprehension's source is at hand: the test and the element, each turn; what stands behind it -/
def CompAt (prog : Program) (w : World) (A : Around) (env : Env) (scope : Scope) (cl : List (Str × Addr)) (x : Str) (ifs : List Expr) (elt : Expr) (Q : Value → Shared → Prop) (xv : Value) (s₁ : Shared) : Prop :=
  ∃ (n : Nat) (P : Nat → Value → Prop) (h₀ : Heap) (L : Addr) (m : Str → Option Value) (news : List (Addr × Obj)) (p : Value → Bool) (FF : Value → Value → Prop),
    Src prog w A xv s₁ n P ∧ n ≤ sizeLine ∧ Fr h₀ L s₁.heap m ∧ News h₀ L s₁.heap news ∧
    (∀ (i : Nat) (v : Value) (C : Addr) (oC : Obj) (m₂ : Str → Option Value) (s₃ : Shared) (E' : Value → Shared → Prop), P i v → LCg.NsObj oC m₂ → m₂ x = some v → Fr h₀ L s₃.heap m → News h₀ L s₃.heap ((C, oC) :: news) → (∀ q ∈ news, q.1 < C) →
      wpAny (model prog w) A (forIn ifs true fun c r => if r = true then do let ok ← isTrue c (compEnvC scope cl C env) (eval c (compEnvC scope cl C env)); pure (ForInStep.yield ok) else pure (ForInStep.yield r)) (fun ok s₄ => ok = p v ∧ Keeps s₃ s₄) E' s₃) ∧
    (∀ (i : Nat) (v : Value) (C : Addr) (oC : Obj) (m₂ : Str → Option Value) (s₃ : Shared) (E' : Value → Shared → Prop), P i v → p v = true → LCg.NsObj oC m₂ → m₂ x = some v → Fr h₀ L s₃.heap m → News h₀ L s₃.heap ((C, oC) :: news) → (∀ q ∈ news, q.1 < C) →
      wpAny (model prog w) A (eval elt (compEnvC scope cl C env)) (fun y s₄ => FF v y ∧ Keeps s₃ s₄) E' s₃) ∧
    (∀ (D : Addr) (h' : Heap) (tk : Nat) (vs ys : List Value), vs.length = n → (∀ (j : Nat) (v : Value), vs[j]? = some v → P j v) → Fr h₀ L h' m → News h₀ L h' news → h'.PlainList D (List.toArray ys) → s₁.heap.get? D = none → s₁.heap.StaysIn h' → Paired FF (vs.filter p) ys → Q (.ref D) { s₁ with heap := h', toks := tk })
theorem items_eq {vs vs' : List Value} (hlen : vs'.length = vs.length) (hP : ∀ (j : Nat) (v : Value), vs'[j]? = some v → vs[j]? = some v) : vs' = vs := by
  refine List.ext_getElem? fun j => ?_
  rcases hj : vs'[j]? with _ | v
  · have hle := List.getElem?_eq_none_iff.mp hj
    rw [List.getElem?_eq_none (by omega)]
  · rw [hP j v hj]
section
variable {prog : Program} {w : World} {A : Around} {E : Value → Shared → Prop} {env : Env} {s : Shared}
theorem src_list {l : Addr} {vs : List Value} (hh : A.handled = none) (hl : s.heap.IsList l vs.toArray) : Src prog w A (.ref l) s vs.length (fun i v => vs[i]? = some v) := by
  have hlt : l < s.heap.objs.size := by obtain ⟨o, ho, _⟩ := hl; exact Heap.lt_size ho
  have W := Walks.list (prog := prog) (w := w) (A := A) hh s.heap.objs.size l (Nat.ne_of_lt hlt) vs.toArray
  have e1 : vs.toArray.size = vs.length := by simp
  have e2 : (fun (i : Nat) (v : Value) => vs.toArray[i]? = some v) = fun i v => vs[i]? = some v := by funext i v; simp
  rw [e1, e2] at W
  refine ⟨_, _, { cls := .type "list_iterator", data := .fields #[.ref l, .int 0 0] }, fun Q E h => wpAny_pyIter_list hl h, W, ⟨⟨_, Heap.get?_push_size _ rfl, rfl, rfl⟩, hl.at fun o e => Heap.get?_push_of_some _ e⟩, fun b hb => ?_⟩
  rcases List.mem_cons.mp hb with rfl | hb
  · exact Nat.lt_succ_self _
  · rw [List.mem_singleton.mp hb]; exact Nat.lt_succ_of_lt hlt
theorem walks_strong {I : Addr} {fp wr : List Addr} {n : Nat} {P : Nat → Value → Prop} {St : Nat → Heap → Prop} (W : Walks prog w A I fp wr n P St) : Walks prog w A I fp wr n (fun i v => i < n ∧ P i v) St where
  sub := W.sub
  frame := W.frame
  item := fun i s Q E hi st hQ => W.item i s Q E hi st fun v h' tk hP => hQ v h' tk ⟨hi, hP⟩
  done := W.done
  self := W.self
theorem src_range {r : Addr} {a b c : Int} {t u v : Tok} {n : Nat} (hh : A.handled = none) (hr : IsRange s.heap r a b c t u v) (hsmall : Builtin.Range.small a b c = true) (hn : Builtin.Range.rangeSize a b c = n) :
    Src prog w A (.ref r) s n (fun i v => i < n ∧ ∃ t, v = .int (a + i * c) t) := by
  have W := walks_strong (Walks.range (prog := prog) (w := w) (A := A) hh s.heap.objs.size a c n)
  refine ⟨_, _, { cls := .type "range_iterator", data := .fields #[rawInt a, rawInt (Builtin.Range.rangeSize a b c), rawInt c] }, fun Q E h => wpAny_pyIter_range hr hsmall h, W, ?_, fun b hb => ?_⟩
  · show IsRangeIter _ _ _ _ _; rw [hn]; simpa using Heap.get?_push_size _ rfl
  · rw [List.mem_singleton.mp hb]; exact Nat.lt_succ_self _
theorem comp_at {elt iter : Expr} {x : Str} {px : Pos} {ifs : List Expr} {scope : Scope} {cl : List (Str × Addr)} {pos : Pos} {Q : Value → Shared → Prop}
    (hclos : closureFor scope env = pure cl) (hcell : ∀ y ∈ scope.names, y.2 ≠ .cell) (hkind : scope.kind = .function)
    (hnames : ∀ y ∈ scope.names, y.2 = .local → scope.names.lookup y.1 = some .local) (hx : scope.names.lookup x = some .local)
    (h : wpAny (model prog w) A (eval iter env) (CompAt prog w A env scope cl x ifs elt Q) E s)
    (hs : ∀ x, foldedSetIterable iter env x = pure x := by intro _; rfl) :
    wpAny (model prog w) A (eval (.ListComp elt [⟨.Name x px, iter, ifs, 0⟩] scope pos) env) Q E s := by
  rw [eval_ListComp]
  refine wpAny_comprehension_free (use := none) rfl hs hclos hkind hnames (wpAny_mono h (fun xv s₁ h₁ => ?_) fun _ _ e => e)
  obtain ⟨n, P, h₀, L, m, news, p, FF, ⟨fp, St, oI, hiter, W, hst, hfp⟩, hsz, F, N, ht, he, hd⟩ := h₁
  refine hiter _ _ ?_
  generalize hH : s₁.heap.push oI = H1 at hst ⊢
  have old : ∀ b o, s₁.heap.get? b = some o → H1.get? b = some o := fun b o e => hH ▸ Heap.get?_push_of_some _ e
  have hsz1 : H1.objs.size = s₁.heap.objs.size + 1 := by rw [← hH, Heap.size_push]
  have turnFacts : ∀ (C : Addr) (s₃ : Shared) (m₃ : Str → Option Value), H1.objs.size ≤ C → s₃.heap.Ns C m₃ → (∀ b o, b ∉ [s₁.heap.objs.size] → H1.get? b = some o → s₃.heap.get? b = some o) →
      ∃ oC, LCg.NsObj oC m₃ ∧ Fr h₀ L s₃.heap m ∧ News h₀ L s₃.heap ((C, oC) :: news) ∧ (∀ q ∈ news, q.1 < C) := by
    intro C s₃ m₃ hC hn hk
    obtain ⟨oC, hoC, hns⟩ := LCg.ns_obj hn
    have k3 : ∀ b o, s₁.heap.get? b = some o → s₃.heap.get? b = some o := fun b o e => hk b o (by
      intro hm
      rw [List.mem_singleton.mp hm] at e
      exact absurd (Heap.lt_size e) (Nat.lt_irrefl _)) (old b o e)
    have hCn : s₁.heap.objs.size ≤ C := by rw [hsz1] at hC; exact Nat.le_of_succ_le hC
    have hnone : s₁.heap.get? C = none := Heap.get?_none_of_le hCn
    refine ⟨oC, hns, F.keeps k3, fun q hq => ?_, fun q hq => Nat.lt_of_lt_of_le (Heap.lt_size (N q hq).1) hCn⟩
    rcases List.mem_cons.mp hq with rfl | hq
    · refine ⟨hoC, fun e => ?_, ?_⟩
      · have := F.ns.lt
        rw [← e] at this
        exact absurd (Nat.lt_of_lt_of_le this hCn) (Nat.lt_irrefl _)
      · cases q : h₀.get? C with
        | none => rfl
        | some o => have := F.keep _ _ q; rw [hnone] at this; cases this
    · exact ⟨k3 _ _ (N q hq).1, (N q hq).2⟩
  refine comp_block_walkC (RR := fun acc C => compPost (model prog w) A E none Q acc C) (s₂ := { s₁ with heap := H1 }) W hsz p FF hcell hkind hx hst (fun b hb => ?_) ⟨?_, ?_⟩ ?_
  · show b < H1.objs.size; rw [hsz1]; exact hfp b hb
  · intro C i v s₃ m₃ E' hC hP hn hm hk _
    obtain ⟨oC, h1, h2, h3, h4⟩ := turnFacts C s₃ m₃ hC hn hk
    exact ht i v C oC m₃ s₃ E' hP h1 hm h2 h3 h4
  · intro C i v s₃ m₃ E' hC hP hp hn hm hk _
    obtain ⟨oC, h1, h2, h3, h4⟩ := turnFacts C s₃ m₃ hC hn hk
    exact he i v C oC m₃ s₃ E' hP hp h1 hm h2 h3 h4
  · intro D C h' tk m' ys vs' hD hC hDC hn hlD hplD hlen hP hF hk
    refine ⟨m', hn, fun h'' hs'' => ?_⟩
    have k1 : ∀ b o, s₁.heap.get? b = some o → h''.get? b = some o := fun b o e => hs''.extBut b o (by
      rintro rfl
      have := old _ _ e
      rw [hC] at this; cases this) (hk b o (by
      intro hm
      rw [List.mem_singleton.mp hm] at e
      exact absurd (Heap.lt_size e) (Nat.lt_irrefl _)) (old b o e))
    have hD1 : s₁.heap.get? D = none := by
      cases q : s₁.heap.get? D with
      | none => rfl
      | some o => have := old _ _ q; rw [hD] at this; cases this
    exact hd D h'' tk vs' ys.toList hlen hP (F.keeps k1) (fun q hq => ⟨k1 _ _ (N q hq).1, (N q hq).2⟩) (by simpa using hplD.extBut hs''.extBut hDC) hD1 k1 hF
end
end Mine
namespace Mine
section
variable {prog : Program} {w : World} {A : Around} {E : Value → Shared → Prop} {s : Shared} {h₀ h₁ : Heap} {L : Addr} {m : Str → Option Value} {news : List (Addr × Obj)} {x : Str} {t : Tok} {value slice : PySem.Expr} {Q : Value → Shared → Prop}
theorem kept_elt : KeptH (fun h' => (Fr h₀ L h' m ∧ News h₀ L h' news) ∧ InElt h₁ h') := fun h ob ⟨⟨F, N⟩, k⟩ => ⟨⟨F.push _, fun p hp => ⟨Heap.get?_push_of_some _ (N p hp).1, (N p hp).2⟩⟩, fun b o e => Heap.get?_push_of_some _ (k b o e)⟩
theorem slice_keep_ns {j : Int} {uj : Tok} (hF : Fr h₀ L s.heap m) (hN : News h₀ L s.heap news) (hE : InElt h₁ s.heap) (h : ∀ h' t' k, Fr h₀ L h' m → News h₀ L h' news → InElt h₁ h' → (Txt.slice x none (some j)).length ≤ x.length → Q (.str (Txt.slice x none (some j)) t') { s with heap := h', toks := k })
    (hs : subscripted slice false (.str x t) (.ref s.heap.objs.size) = operate [.ref s.heap.objs.size, .str x t] (getItem (.str x t) (.ref s.heap.objs.size)) := by with_unfolding_all rfl)
    (ht : ∀ r, letTemporaryGo value (.str x t) r = pure () := by intro _; with_unfolding_all rfl) (hsz : x.length ≤ sizeLine := by size_fits) :
    wpAny (model prog w) A (subscriptTail value slice (.str x t) (.ref s.heap.objs.size)) Q E { s with heap := s.heap.push { cls := .type "slice", data := .fields #[.none, .int j uj, .none] } } :=
  tail_of_ItemOn (SBH.sliceItem_ns kept_elt ⟨⟨hF, hN⟩, hE⟩ (fun h' t' k a => h h' t' k a.1.1 a.1.2 a.2 (Txt.slice_le _ _ _)) hsz) hs ht
theorem slice_keep_sn {i : Int} {ui : Tok} (hF : Fr h₀ L s.heap m) (hN : News h₀ L s.heap news) (hE : InElt h₁ s.heap) (h : ∀ h' t' k, Fr h₀ L h' m → News h₀ L h' news → InElt h₁ h' → (Txt.slice x (some i) none).length ≤ x.length → Q (.str (Txt.slice x (some i) none) t') { s with heap := h', toks := k })
    (hs : subscripted slice false (.str x t) (.ref s.heap.objs.size) = operate [.ref s.heap.objs.size, .str x t] (getItem (.str x t) (.ref s.heap.objs.size)) := by with_unfolding_all rfl)
    (ht : ∀ r, letTemporaryGo value (.str x t) r = pure () := by intro _; with_unfolding_all rfl) (hsz : x.length ≤ sizeLine := by size_fits) :
    wpAny (model prog w) A (subscriptTail value slice (.str x t) (.ref s.heap.objs.size)) Q E { s with heap := s.heap.push { cls := .type "slice", data := .fields #[.int i ui, .none, .none] } } :=
  tail_of_ItemOn (SBH.sliceItem_sn kept_elt ⟨⟨hF, hN⟩, hE⟩ (fun h' t' k a => h h' t' k a.1.1 a.1.2 a.2 (Txt.slice_le _ _ _)) hsz) hs ht
theorem after_elt {P : Heap → Nat → Prop} (hF : Fr h₀ L s.heap m) (hN : News h₀ L s.heap news) (hE : InElt h₁ s.heap) (h : ∀ h' tk', Fr h₀ L h' m → News h₀ L h' news → InElt h₁ h' → P h' tk') : ∀ h' tk', s.heap.StaysIn h' → P h' tk' :=
  fun h' tk' k => h h' tk' (hF.keeps k) (fun p hp => ⟨k _ _ (hN p hp).1, (hN p hp).2⟩) fun b o e => k b o (hE b o e)
theorem after_st {P : Heap → Nat → Prop} (hF : Fr h₀ L s.heap m) (hN : News h₀ L s.heap news) (h : ∀ h' tk', Fr h₀ L h' m → News h₀ L h' news → P h' tk') : ∀ h' tk', s.heap.StaysIn h' → P h' tk' :=
  fun h' tk' k => h h' tk' (hF.keeps k) (fun p hp => ⟨k _ _ (hN p hp).1, (hN p hp).2⟩)
theorem upper_slice {lo hi : Option Int} (hx : x.length ≤ 100000) (h : (Txt.upper (Txt.slice x lo hi)).length ≤ 3 * x.length → Q (.str (Txt.upper (Txt.slice x lo hi)) s.toks) { s with toks := s.toks + 1 }) :
    wpAny (model prog w) A (call (.builtin "str.upper") [.str (Txt.slice x lo hi) t]) Q E s :=
  SCL.upper (Nat.le_trans (Txt.slice_le x lo hi) (by omega)) fun h1 => h (Nat.le_trans h1 (Nat.mul_le_mul_left _ (Txt.slice_le x lo hi)))
end
end Mine
end
section
open PySem PySem.W PyProof.Rows
set_option maxRecDepth 100000
set_option maxHeartbeats 2000000
namespace Mine
/-- what a name is asked as -/
def asked (x : Str) : Str := x ++ Str.ofString "*/abbaaabab/"
def askP (axs : List Str) (x : Str) : Bool := axs.any (hits (asked x))
def askV (axs : List Str) : Value → Bool
  | .str x _ => askP axs x
  | _ => false
theorem strs_filter {pv : Value → Bool} {q : Str → Bool} (hpq : ∀ x t, pv (.str x t) = q x) : ∀ {vs : List Value} {xs : List Str}, Strs vs xs → Strs (vs.filter pv) (xs.filter q)
  | _, _, .nil => .nil
  | _, _, .cons y t (vs := vs) (ys := ys) h => by
    have ih := strs_filter hpq h
    by_cases hq : q y = true
    · rw [List.filter_cons_of_pos (by rw [hpq]; exact hq), List.filter_cons_of_pos hq]; exact .cons y t ih
    · rw [List.filter_cons_of_neg (by rw [hpq]; exact hq), List.filter_cons_of_neg hq]; exact ih
theorem paired_eq {vs ys : List Value} (h : Paired (fun v y => y = v) vs ys) : ys = vs := by
  induction h with
  | nil => rfl
  | cons e _ ih => rw [e, ih]
theorem up_down {g h1 h2 : Heap} {L' : Addr} {m : Str → Option Value} {fr : List Addr} (F : Fr g L' h1 m) (U : Up (L' :: fr) h1 h2) : Up fr g h2 := by
  intro b o ho
  have hb : b ≠ L' := Nat.ne_of_lt (Nat.lt_of_lt_of_le (Heap.lt_size ho) F.above)
  have := U b o (F.keep b o ho)
  exact ⟨fun hn => this.1 fun hm => (List.mem_cons.mp hm).elim hb hn, fun hm => this.2 (.tail _ hm)⟩
theorem none_down {g h1 : Heap} {L' D : Addr} {m : Str → Option Value} (F : Fr g L' h1 m) (hn : h1.get? D = none) : g.get? D = none := by
  cases q : g.get? D with
  | none => rfl
  | some o => have := F.keep _ _ q; rw [hn] at this; cases this
local macro_rules | `(tactic| k_room) => `(tactic| ktr_room)
local macro_rules | `(tactic| walk_at "eval ListComp") => `(tactic| (k_here; k_dflt (refine comp_at (by with_unfolding_all rfl) (by decide) (by rfl) (by decide) (by rfl) ?_)))
local macro_rules | `(tactic| k_inst) => `(tactic| exact inst_up (by assumption) (Fr.keep (by k_asm)))
local macro_rules | `(tactic| k_get) => `(tactic| assumption)
local macro_rules | `(tactic| walk_at "call ref") => `(tactic| (k_here; (with_reducible show wpAny _ _ (call (Value.ref 49) [Value.ref _, Value.str _ _]) _ _ _); (with_unfolding_all refine' applies_c ?k1 ?k2 ?k3 ?k4 ?k5 ?k6 ?k7 ?k8 ?k9 ?k10 ?k11 ?k12 ?k13 (after_elt ?k14 ?k15 ?k16 ?_)); (case k1 => k_asm); (case k2 => k_asm); (case k3 => k_asm); (case k4 => k_asm); (case k5 => exact rfl); (case k6 => ktr_room); (case k7 => ktr_units); (case k8 => k_inst); (case k9 => k_get); (case k10 => ((have hq : (PySem.Str.ofString "*/abbaaabab/").length = 12 := by decide); simp only [Str.length_append, hq]; omega)); (case k11 => is_list); (case k12 => assumption); (case k13 => assumption); (case k14 => k_asm); (case k15 => k_asm); (case k16 => k_asm); k_whole; intro h' tk' F' N' kE'))
theorem bne_false_eq (b : Bool) : (b != false) = b := by cases b <;> rfl
local macro_rules | `(tactic| walk_at "call ref") => `(tactic| ((with_reducible show wpAny _ _ (call (Value.ref 107) _) _ _ _); refine hold_ ?_))
theorem left_c {w : World} {loose : List Str} {mean : ExcName → Option Value} {mg mb : Str → Option Value}
  {dp un : Nat} {gd : Option (List Code)} {cn : Str} {cs : Scope} {a : Addr} {ccd : Value} {cl : List (Str × Addr)} {outer : List Env} {A₀ : Around} {base h₀ : Heap} {L : Addr} {m : Str → Option Value} {s : Shared} {Q E : Value → Shared → Prop}
  {one d l nl : Addr} {es : List DictEntry} {n : Nat} {sl : Array (Option Value)} {avs vs : List Value} {axs xs : List Str}
  (B : Below A₀ base outer h₀) (F : Fr h₀ L s.heap m) (X : (hd.heap_39 w.params).In h₀) (T : Top hd.view_39 loose mean mg mb h₀) (hk : cs.kind = .function) (hdp : dp + 16 < recursionLimit) (hun : un + 128 < cLine)
  (I : InstAt s.heap one ⟨.ref 59, some d, .plain, sl⟩ 59 (some (dictOf es n)))
  (he : getL "useragents" es = some (some (.ref l))) (he2 : getL "applies_to" es = some none)
  (hla : s.heap.IsList l avs.toArray) (hsa : Strs avs axs) (hxa : ∀ x ∈ axs, x.length ≤ 100000)
  (hl : s.heap.IsList nl vs.toArray) (hs : Strs vs xs) (hxs : ∀ x ∈ xs, x.length ≤ 1000) (hsz : vs.length ≤ 100000)
  (hret : ∀ (D : Addr) (c : Nat) (h' : Heap) (tk' : Nat), Up (L :: outer.filterMap (·.frame)) s.heap h' → h'.get? D = some (lstObj (vs.filter (keepP (xs.filter (askP axs)))).toArray c) → s.heap.get? D = none → Q (.ref D) { s with heap := h', toks := tk' }) :
  wpAny (model Challenge.rw_ij0195_01.row.prog w) (ktrTop dp un gd cn cs L a ccd cl outer) (call (.ref 117) [.ref one, .ref nl]) Q E s := by
  w_strict (
    (revert X; k_fill; intro X)
    refine wpAny_call ?_
    refine' callPC ?k1 ?k2 ?k3 ?k5 ?kA ?kF ?kK ?k6 ?k7 ?k8 ?k9 ?kB ?kD ?_ ?c2 ?c3 ?c4
    (case kA => exact rfl); (case kF => exact rfl); (case kK => assumption); (case k1 => k_asm); (case k2 => k_asm); (case k3 => k_asm); (case k5 => k_asm); (case k6 => k_is); (case k7 => k_is); (case k8 => ktr_room); (case k9 => exact BindsTo.of_eq rfl); (case kB => exact kindsX rfl); (case kD => decide +kernel); (case c2 => exact rfl); (case c3 => exact rfl); (case c4 => exact rfl)
    k_whole
    intro L' h' tk' cells' F' N' Y' B' X' T'
    k_cells Y'
    (try simp only [List.cons_append, List.nil_append] at N')
    (try dsimp only)
    (try k_lift B')
    (try k_fold)
    k_steps
    refine ⟨_, _, _, _, _, _, askV axs, fun v y => y = v, src_list (vs := vs) rfl (by is_list), by rw [sizeLine_eq]; omega, (by k_asm), (by k_asm), ?ht, ?he, ?hd⟩
    (case ht =>
      intro i v C oC m₂ s₃ E' hv hC hm F3 N3 hlt
      obtain ⟨x, t, hx, e⟩ := strs_get hs hv
      subst e
      have hbx := hxs _ (List.mem_of_getElem? hx)
      refine wpAny_tests_one ?_
      k_steps
      exact ⟨_, _, rfl, by assumption⟩)
    (case he =>
      intro i v C oC m₂ s₃ E' hv hp hC hm F3 N3 hlt
      k_steps
      · exact ⟨_, _, rfl, fun b o e => e⟩)
    (case hd =>
      intro D h2 tk2 vs' ys hlen hitems F2 N2 hD hDn hst hP
      (obtain rfl := items_eq hlen hitems)
      have eys := paired_eq hP
      subst eys
      k_steps
      refine of_hold ?_
      with_unfolding_all refine' filter_c ?j1 ?j2 ?j3 ?j4 ?j5 ?j6 ?j7 ?j8 ?j9 ?j10 ?j11 ?j12 ?_
      (case j1 => exact B')
      (case j2 => k_asm)
      (case j3 => k_asm)
      (case j4 => k_asm)
      (case j5 => exact rfl)
      (case j6 => ktr_room)
      (case j7 => ktr_units)
      (case j8 => is_list)
      (case j9 => exact hs)
      (case j10 => exact hD)
      (case j11 => exact strs_filter (fun x t => rfl) hs)
      (case j12 => exact hsz)
      intro D2 c h3 tk3 hU hS hn
      k_steps
      exact hret D2 c h3 tk3 (up_down F2 hU) hS (none_down F2 hn)))
end Mine
end
section
open PySem PySem.W PyProof.Rows PySem.Calls
set_option maxRecDepth 100000
set_option maxHeartbeats 0
namespace Mine
abbrev E2 (elt : Expr) (x : Str) (px : Pos) (i1 : Expr) (y : Str) (py : Pos) (i2 : Expr) (ifs2 : List Expr) (scope : Scope) (pos : Pos) : Expr := .ListComp elt [⟨.Name x px, i1, [], 0⟩, ⟨.Name y py, i2, ifs2, 0⟩] scope pos
section
variable {prog : Program} {w : World} {A : Around} {E : Value → Shared → Prop} {s : Shared} {elt i1 i2 : Expr} {x y : Str} {px py : Pos} {ifs2 : List Expr} {scope : Scope} {pos : Pos} {cenv : Env} {R : Result → Shared → Prop}
theorem turn_outer (it acc : Value) (env : Env) :
    compTurn (E2 elt x px i1 y py i2 ifs2 scope pos) 0 it acc env = (do
      standAt i1.pos
      match ← pyNext it with
      | none => pure (.done .next)
      | some v =>
        letOwnedTupleGo (.Name x px) it v
        assign (.Name x px) env v
        let z ← eval i2 env
        standAt i2.pos
        let z ← foldedSetIterable i2 env z
        let q ← holding [z] (pyIter z)
        let _ ← runOwn (.compStart (E2 elt x px i1 y py i2 ifs2 scope pos) 1 q acc env) env
        again (.compLoop (E2 elt x px i1 y py i2 ifs2 scope pos) 0 it acc env)) := by
  unfold compTurn
  simp
  rfl
theorem turn_inner (it acc : Value) (env : Env) :
    compTurn (E2 elt x px i1 y py i2 ifs2 scope pos) 1 it acc env = (do
      standAt i2.pos
      match ← pyNext it with
      | none => pure (.done .next)
      | some v =>
        letOwnedTupleGo (.Name y py) it v
        assign (.Name y py) env v
        let mut ok := true
        for c in ifs2 do
          if ok then ok ← isTrue c env (eval c env)
        if ok then
          (do let _ ← call (.builtin "list.append") [acc, ← eval elt env])
        again (.compLoop (E2 elt x px i1 y py i2 ifs2 scope pos) 1 it acc env)) := by rfl
theorem start_inner {it acc : Value} (h0 : codeAny (model prog w) A (.compLoop (E2 elt x px i1 y py i2 ifs2 scope pos) 1 it acc cenv) R s)
    (h : wpAny (model prog w) A (pyIter it) (fun it' s' => codeAny (model prog w) A (.compLoop (E2 elt x px i1 y py i2 ifs2 scope pos) 1 it' acc cenv) R s') (notedBy (model prog w) A cenv fun x s' => R (.error x) s') s) :
    codeAny (model prog w) A (.compStart (E2 elt x px i1 y py i2 ifs2 scope pos) 1 it acc cenv) R s := by
  refine codeAny_of_tree ?_
  show wpAny _ _ ((compStart (E2 elt x px i1 y py i2 ifs2 scope pos) 1 it acc cenv).onRaise (fun x => do noteFrame x cenv; standAt theWindowsPlace)) _ _ s
  refine wpAny_notedAt ?_
  unfold compStart
  show wpAny _ _ (PySem.ask >>= _) _ _ s
  refine wpAny_bind (wpAny_askSetting (wpAny_ite ?_))
  split
  · first
      | exact wpAny_bind (wpAny_pure (wpAny_pure (And.intro rfl h0)))
      | exact wpAny_pure (And.intro rfl h0)
  · first
      | exact wpAny_bind (wpAny_rule (wpAny_bind (wpAny_standAt (wpAny_bind (wpAny_mono h (fun it' s' h' => wpAny_pure (And.intro rfl h')) fun _ _ x => x)))))
      | (refine wpAny_bind (wpAny_rule ?_); show wpAny _ _ (standAt i2.pos >>= _) _ _ s; exact wpAny_bind (wpAny_standAt (wpAny_bind (wpAny_mono h (fun it' s' h' => wpAny_pure (And.intro rfl h')) fun _ _ x => x))))
theorem start_outer {it acc : Value} (h0 : codeAny (model prog w) A (.compLoop (E2 elt x px i1 y py i2 ifs2 scope pos) 0 it acc cenv) R s)
    (h : wpAny (model prog w) A (pyIter it) (fun it' s' => codeAny (model prog w) A (.compLoop (E2 elt x px i1 y py i2 ifs2 scope pos) 0 it' acc cenv) R s') (notedBy (model prog w) A cenv fun x s' => R (.error x) s') s) :
    codeAny (model prog w) A (.compStart (E2 elt x px i1 y py i2 ifs2 scope pos) 0 it acc cenv) R s := codeAny_compStart_list h0 h

/-- the inner clause's loop -/
theorem inner_loop {I D : Addr} {fp : List Addr} {n : Nat} {P : Nat → Value → Prop} {St : Nat → Heap → Prop} {m : Str → Option Value} {ys₀ : List Value} (W : Walks prog w A I fp [I] n P St) (p : Value → Bool) (F : Value → Value → Prop)
    (hy : cenv.kindOf y = some .local) (hp : (cenv.scope.kind == .class || (cenv.scope.kind == .module && cenv.locals != cenv.globals)) = false)
    (hDC : D ≠ cenv.locals) (hDf : D ∉ fp) (hCf : cenv.locals ∉ fp) (hst : St 0 s.heap) (hacc : s.heap.PlainList D ys₀.toArray) (hn : s.heap.Ns cenv.locals m)
    (hsz : ys₀.length + n ≤ sizeLine)
    (htests : ∀ i v s₂ m₂ E', P i v → s₂.heap.Ns cenv.locals m₂ → m₂ y = some v → (∀ z, z ≠ y → m₂ z = m z) → (∀ b o, b ≠ cenv.locals → b ≠ I → b ≠ D → s.heap.get? b = some o → s₂.heap.get? b = some o) →
      wpAny (model prog w) A (forIn ifs2 true fun c r => if r = true then do let ok ← isTrue c cenv (eval c cenv); pure (ForInStep.yield ok) else pure (ForInStep.yield r)) (fun ok s₃ => ok = p v ∧ Keeps s₂ s₃) E' s₂)
    (helt : ∀ i v s₂ m₂ E', P i v → p v = true → s₂.heap.Ns cenv.locals m₂ → m₂ y = some v → (∀ z, z ≠ y → m₂ z = m z) → (∀ b o, b ≠ cenv.locals → b ≠ I → b ≠ D → s.heap.get? b = some o → s₂.heap.get? b = some o) →
      wpAny (model prog w) A (eval elt cenv) (fun u s₃ => F v u ∧ Keeps s₂ s₃) E' s₂)
    (hR : ∀ h' tk m' ws (vs : List Value), h'.Ns cenv.locals m' → (∀ z, z ≠ y → m' z = m z) → h'.PlainList D (ys₀ ++ ws).toArray → vs.length = n → (∀ (j : Nat) v, vs[j]? = some v → P j v) → Paired F (vs.filter p) ws →
      (∀ b o, b ≠ cenv.locals → b ≠ I → b ≠ D → s.heap.get? b = some o → h'.get? b = some o) → R (.ok .next) { s with heap := h', toks := tk }) :
    codeAny (model prog w) A (.compLoop (E2 elt x px i1 y py i2 ifs2 scope pos) 1 (.ref I) (.ref D) cenv) R s := by
  have hIf : I ∈ fp := W.sub I (List.mem_singleton.mpr rfl)
  have hCI : cenv.locals ≠ I := fun e => hCf (e ▸ hIf)
  have hDI : D ≠ I := fun e => hDf (e ▸ hIf)
  refine codeAny_loop rfl (fun k s' => ∃ (h' : Heap) (tk : Nat) (m' : Str → Option Value) (ws vs : List Value), s' = { s with heap := h', toks := tk } ∧ St vs.length h' ∧ h'.PlainList D (ys₀ ++ ws).toArray ∧ h'.Ns cenv.locals m' ∧ (∀ z, z ≠ y → m' z = m z) ∧
      (∀ (j : Nat) v, vs[j]? = some v → P j v) ∧ Paired F (vs.filter p) ws ∧ vs.length ≤ n ∧ k = n + 1 - vs.length ∧ (∀ b o, b ≠ cenv.locals → b ≠ I → b ≠ D → s.heap.get? b = some o → h'.get? b = some o)) ?_ (n + 1)
    ⟨s.heap, s.toks, m, [], [], rfl, hst, by simpa using hacc, hn, fun _ _ => rfl, by simp, .nil, Nat.zero_le _, rfl, fun _ _ _ _ _ e => e⟩
  rintro k s' ⟨H, tk, m', ws, vs, rfl, hst', hacc', hn', hm', hP, hF, hi, rfl, hk⟩
  show wpAny _ A ((compTurn (E2 elt x px i1 y py i2 ifs2 scope pos) 1 (.ref I) (.ref D) cenv).onRaise (fun x => do noteFrame x cenv; theTreesLotGoes x)) _ _ _
  refine wpAny_noted ?_
  rw [turn_inner]
  refine wpAny_bind (wpAny_standAt (wpAny_bind ?_))
  by_cases hlt : vs.length < n
  · refine W.item vs.length _ _ _ hlt hst' fun v h₁ tk₁ hPv hst₁ hk₁ => ?_
    refine wpAny_bind (wpAny_of_eq (a := ()) (by rfl) (wpAny_bind ?_))
    have kI : ∀ b o, b ≠ I → H.get? b = some o → h₁.get? b = some o := fun b o hb e => hk₁ b o (fun hm => hb (List.mem_singleton.mp hm)) e
    refine wpAny_assign_Name (wpAny_storeName_local hy (hn'.at' fun o e => kI _ o hCI e) (fun h₂ hn₂ hs₂ => ?_) hp)
    have up₂ : ∀ b o, b ≠ cenv.locals → b ≠ I → H.get? b = some o → h₂.get? b = some o := fun b o hbC hbI e => hs₂.extBut b o hbC (kI b o hbI e)
    have hst₂ : St (vs.length + 1) h₂ := W.frame _ _ _ hst₁ fun b hb o e => hs₂.extBut b o (fun h => hCf (h ▸ hb)) e
    have hm₂ : ∀ z, z ≠ y → (fun z => if z = y then some v else m' z) z = m z := fun z hz => by simp only [if_neg hz]; exact hm' z hz
    refine wpAny_bind (wpAny_mono (htests vs.length v _ _ _ hPv hn₂ (by simp) hm₂ (fun b o hbC hbI hbD e => up₂ b o hbC hbI (hk b o hbC hbI hbD e))) (fun ok s₃ h₃ => ?_) fun _ _ e => e)
    obtain ⟨rfl, h₃, tk₃, rfl, hk₃⟩ := h₃
    have hst₃ : St (vs.length + 1) h₃ := W.frame _ _ _ hst₂ fun b _ o e => hk₃ b o e
    have hacc₃ : h₃.PlainList D (ys₀ ++ ws).toArray := hacc'.at fun o e => hk₃ _ o (up₂ D o hDC hDI e)
    have hn₃ := hn₂.keeps hk₃
    have hP' : ∀ (j : Nat) u, (vs ++ [v])[j]? = some u → P j u := fun j u hj => by
      rcases Nat.lt_trichotomy j vs.length with h | h | h
      · exact hP j u (by rwa [List.getElem?_append_left h] at hj)
      · subst h; simp at hj; subst hj; exact hPv
      · have hnone : (vs ++ [v])[j]? = none := List.getElem?_eq_none (by rw [List.length_append, List.length_singleton]; omega)
        rw [hnone] at hj; cases hj
    have hl1 : (vs ++ [v]).length = vs.length + 1 := by simp
    cases hpv : p v with
    | false =>
      simp only [Bool.false_eq_true, if_false]
      refine wpAny_pure ⟨rfl, n + 1 - (vs.length + 1), by omega, h₃, tk₃, _, ws, vs ++ [v], rfl, by rw [hl1]; exact hst₃, hacc₃, hn₃, hm₂, hP', ?_, by rw [hl1]; exact hlt, by rw [hl1], fun b o hbC hbI hbD e => hk₃ b o (up₂ b o hbC hbI (hk b o hbC hbI hbD e))⟩
      rw [List.filter_append]; simpa [hpv] using hF
    | true =>
      simp only [if_true]
      refine wpAny_bind (wpAny_bind (wpAny_mono (helt vs.length v _ _ _ hPv hpv hn₃ (by simp) hm₂ (fun b o hbC hbI hbD e => hk₃ b o (up₂ b o hbC hbI (hk b o hbC hbI hbD e)))) (fun u s₄ h₄ => ?_) fun _ _ e => e))
      obtain ⟨hFu, h₄, tk₄, rfl, hk₄⟩ := h₄
      have hlw : ws.length ≤ vs.length := by
        have e1 := hF.length
        have e2 : (vs.filter p).length ≤ vs.length := List.length_filter_le _ _
        omega
      refine wpAny_bind (wpAny_list_append_plain (hsz := by rw [List.size_toArray, List.length_append]; omega) (hacc₃.at fun o e => hk₄ _ o e) fun h₅ hl₅ hs₅ => ?_)
      refine wpAny_pure (wpAny_pure ⟨rfl, n + 1 - (vs.length + 1), by omega, h₅, tk₄, _, ws ++ [u], vs ++ [v], rfl, ?_, ?_, (hn₃.keeps hk₄).sameBut hs₅ (Ne.symm hDC), hm₂, hP', ?_, by rw [hl1]; exact hlt, by rw [hl1],
        fun b o hbC hbI hbD e => hs₅.extBut b o hbD (hk₄ b o (hk₃ b o (up₂ b o hbC hbI (hk b o hbC hbI hbD e))))⟩)
      · rw [hl1]; exact W.frame _ _ h₅ hst₃ fun b hb o e => hs₅.extBut b o (fun h => hDf (h ▸ hb)) (hk₄ b o e)
      · simpa using hl₅
      · rw [List.filter_append]; simpa [hpv] using Paired.snoc hF hFu
  · have hin : vs.length = n := by omega
    refine W.done _ _ _ (hin ▸ hst') fun h₁ tk₁ hk₁ => ?_
    have kI : ∀ b o, b ≠ I → H.get? b = some o → h₁.get? b = some o := fun b o hb e => hk₁ b o (fun hm => hb (List.mem_singleton.mp hm)) e
    exact wpAny_pure (hR h₁ tk₁ m' ws vs (hn'.at' fun o e => kI _ o hCI e) hm' (hacc'.at fun o e => kI _ o hDI e) hin hP hF fun b o hbC hbI hbD e => kI b o hbI (hk b o hbC hbI hbD e))
end

/-- the inner clause's source: what it stands on is its own iterator or stood apart -/
def SrcIn (prog : Program) (w : World) (A : Around) (ok : Addr → Prop) (xv : Value) (s₁ : Shared) (n : Nat) (P : Nat → Value → Prop) : Prop :=
  ∃ (fp : List Addr) (St : Nat → Heap → Prop) (o : Obj), (∀ (Q : Value → Shared → Prop) (E : Value → Shared → Prop), Q (.ref s₁.heap.objs.size) { s₁ with heap := s₁.heap.push o } → wpAny (model prog w) A (pyIter xv) Q E s₁) ∧
    Walks prog w A s₁.heap.objs.size fp [s₁.heap.objs.size] n P St ∧ St 0 (s₁.heap.push o) ∧ ∀ b ∈ fp, b = s₁.heap.objs.size ∨ ok b
section
variable {prog : Program} {w : World} {A : Around} {E : Value → Shared → Prop} {s : Shared} {ok : Addr → Prop}
theorem srcIn_list {l : Addr} {vs : List Value} (hh : A.handled = none) (hl : s.heap.IsList l vs.toArray) (hok : ok l) : SrcIn prog w A ok (.ref l) s vs.length (fun i v => vs[i]? = some v) := by
  have hlt : l < s.heap.objs.size := by obtain ⟨o, ho, _⟩ := hl; exact Heap.lt_size ho
  have W := Walks.list (prog := prog) (w := w) (A := A) hh s.heap.objs.size l (Nat.ne_of_lt hlt) vs.toArray
  have e1 : vs.toArray.size = vs.length := by simp
  have e2 : (fun (i : Nat) (v : Value) => vs.toArray[i]? = some v) = fun i v => vs[i]? = some v := by funext i v; simp
  rw [e1, e2] at W
  refine ⟨_, _, { cls := .type "list_iterator", data := .fields #[.ref l, .int 0 0] }, fun Q E h => wpAny_pyIter_list hl h, W, ⟨⟨_, Heap.get?_push_size _ rfl, rfl, rfl⟩, hl.at fun o e => Heap.get?_push_of_some _ e⟩, fun b hb => ?_⟩
  rcases List.mem_cons.mp hb with rfl | hb
  · exact .inl rfl
  · rw [List.mem_singleton.mp hb]; exact .inr hok
theorem srcIn_range {r : Addr} {a b c : Int} {t u v : Tok} {n : Nat} (hh : A.handled = none) (hr : IsRange s.heap r a b c t u v) (hsmall : Builtin.Range.small a b c = true) (hn : Builtin.Range.rangeSize a b c = n) :
    SrcIn prog w A ok (.ref r) s n (fun i v => i < n ∧ ∃ t, v = .int (a + i * c) t) := by
  have W := walks_strong (Walks.range (prog := prog) (w := w) (A := A) hh s.heap.objs.size a c n)
  refine ⟨_, _, { cls := .type "range_iterator", data := .fields #[rawInt a, rawInt (Builtin.Range.rangeSize a b c), rawInt c] }, fun Q E h => wpAny_pyIter_range hr hsmall h, W, ?_, fun b hb => .inl (List.mem_singleton.mp hb)⟩
  show IsRangeIter _ _ _ _ _; rw [hn]; simpa using Heap.get?_push_size _ rfl
theorem srcIn_str {x : Str} {t : Tok} (hh : A.handled = none) (ha : x.cps.all (· < 128) = true) : SrcIn prog w A ok (.str x t) s x.cps.size (SignAt x) :=
  ⟨_, _, _, fun Q E h => wpAny_pyIter_ascii ha h, Walks.strAscii hh _ x t, ⟨_, Heap.get?_push_size _ rfl, rfl, rfl⟩, fun b hb => .inl (List.mem_singleton.mp hb)⟩
end
/-- what is to be shown where the inner source is at hand -/
def InnerAt (prog : Program) (w : World) (A : Around) (cenvOf : Addr → Env) (x y : Str) (ifs2 : List Expr) (elt : Expr) (h₀ : Heap) (L : Addr) (m : Str → Option Value) (news : List (Addr × Obj)) (FF : Value → List Value → Prop) (v : Value) (C : Addr) (s₃ : Shared) (xv2 : Value) (s₄ : Shared) : Prop :=
  Keeps s₃ s₄ ∧ ∃ (n2 : Nat) (P2 : Nat → Value → Prop) (p2 : Value → Bool) (F2 : Value → Value → Prop),
    SrcIn prog w A (fun b => h₀.get? b ≠ none ∨ (∃ q ∈ news, b = q.1) ∨ s₃.heap.get? b = none) xv2 s₄ n2 P2 ∧ n2 ≤ 1000 ∧
    (∀ (i : Nat) (u : Value) (oC : Obj) (m₂ : Str → Option Value) (s₅ : Shared) (E' : Value → Shared → Prop), P2 i u → LCg.NsObj oC m₂ → m₂ x = some v → m₂ y = some u → Fr h₀ L s₅.heap m → News h₀ L s₅.heap ((C, oC) :: news) →
      wpAny (model prog w) A (forIn ifs2 true fun c r => if r = true then do let ok ← isTrue c (cenvOf C) (eval c (cenvOf C)); pure (ForInStep.yield ok) else pure (ForInStep.yield r)) (fun ok s₆ => ok = p2 u ∧ Keeps s₅ s₆) E' s₅) ∧
    (∀ (i : Nat) (u : Value) (oC : Obj) (m₂ : Str → Option Value) (s₅ : Shared) (E' : Value → Shared → Prop), P2 i u → p2 u = true → LCg.NsObj oC m₂ → m₂ x = some v → m₂ y = some u → Fr h₀ L s₅.heap m → News h₀ L s₅.heap ((C, oC) :: news) →
      wpAny (model prog w) A (eval elt (cenvOf C)) (fun z s₆ => F2 u z ∧ Keeps s₅ s₆) E' s₅) ∧
    (∀ (vs2 ws : List Value), vs2.length = n2 → (∀ (j : Nat) (u : Value), vs2[j]? = some u → P2 j u) → Paired F2 (vs2.filter p2) ws → FF v ws)
def Comp2At (prog : Program) (w : World) (A : Around) (cenvOf : Addr → Env) (x y : Str) (i2 : Expr) (ifs2 : List Expr) (elt : Expr) (Q : Value → Shared → Prop) (xv : Value) (s₁ : Shared) : Prop :=
  ∃ (n : Nat) (P : Nat → Value → Prop) (h₀ : Heap) (L : Addr) (m : Str → Option Value) (news : List (Addr × Obj)) (FF : Value → List Value → Prop),
    Src prog w A xv s₁ n P ∧ n ≤ 1000 ∧ Fr h₀ L s₁.heap m ∧ News h₀ L s₁.heap news ∧
    (∀ (i : Nat) (v : Value) (C : Addr) (oC : Obj) (m₂ : Str → Option Value) (s₃ : Shared) (E' : Value → Shared → Prop), P i v → LCg.NsObj oC m₂ → m₂ x = some v → Fr h₀ L s₃.heap m → News h₀ L s₃.heap ((C, oC) :: news) → (∀ q ∈ news, q.1 < C) →
      wpAny (model prog w) A (eval i2 (cenvOf C)) (InnerAt prog w A cenvOf x y ifs2 elt h₀ L m news FF v C s₃) E' s₃) ∧
    (∀ (D : Addr) (h' : Heap) (tk : Nat) (vs : List Value) (wss : List (List Value)), vs.length = n → (∀ (j : Nat) (v : Value), vs[j]? = some v → P j v) → Fr h₀ L h' m → News h₀ L h' news → h'.PlainList D wss.flatten.toArray → s₁.heap.get? D = none → s₁.heap.StaysIn h' → Paired FF vs wss → Q (.ref D) { s₁ with heap := h', toks := tk })

theorem paired_lens {FF : Value → List Value → Prop} {N : Nat} : ∀ {vs : List Value} {wss : List (List Value)}, Paired FF vs wss → (∀ ws ∈ wss, ws.length ≤ N) → wss.flatten.length ≤ vs.length * N
  | _, _, .nil, _ => by simp
  | _, _, .cons (l₁ := l₁) (l₂ := l₂) (b := b) _ h, hl => by
    have ih := paired_lens h fun ws hw => hl ws (.tail _ hw)
    have h1 := hl _ (.head _)
    rw [List.flatten_cons, List.length_append, List.length_cons, Nat.succ_mul]
    omega
section
variable {prog : Program} {w : World} {A : Around} {E : Value → Shared → Prop} {s : Shared} {elt i1 i2 : Expr} {x y : Str} {px py : Pos} {ifs2 : List Expr} {scope : Scope} {pos : Pos} {cenvOf : Addr → Env} {R : Result → Shared → Prop}
theorem outer_loop {I D C : Addr} {fp : List Addr} {n : Nat} {P : Nat → Value → Prop} {St : Nat → Heap → Prop} {mc : Str → Option Value} {h₀ : Heap} {L : Addr} {m : Str → Option Value} {news : List (Addr × Obj)} {FF : Value → List Value → Prop}
    (W : Walks prog w A I fp [I] n P St) (hcenv : (cenvOf C).locals = C) (hx : (cenvOf C).kindOf x = some .local) (hy : (cenvOf C).kindOf y = some .local) (hxy : x ≠ y) (hp : ((cenvOf C).scope.kind == .class || ((cenvOf C).scope.kind == .module && (cenvOf C).locals != (cenvOf C).globals)) = false)
    (hs2 : ∀ z, foldedSetIterable i2 (cenvOf C) z = pure z)
    (hDC : D ≠ C) (hDf : D ∉ fp) (hCf : C ∉ fp) (hst : St 0 s.heap) (hacc : s.heap.PlainList D #[]) (hn : s.heap.Ns C mc) (hsz : n ≤ 1000)
    (F : Fr h₀ L s.heap m) (N : News h₀ L s.heap news) (hC0 : h₀.get? C = none) (hCL : C ≠ L) (hCn : ∀ q ∈ news, q.1 < C) (hD0 : h₀.get? D = none) (hDL : D ≠ L) (hDn : ∀ q ∈ news, q.1 ≠ D) (hI0 : h₀.get? I = none) (hIL : I ≠ L) (hIn : ∀ q ∈ news, q.1 ≠ I)
    (inner : ∀ (i : Nat) (v : Value) (C : Addr) (oC : Obj) (m₂ : Str → Option Value) (s₃ : Shared) (E' : Value → Shared → Prop), P i v → LCg.NsObj oC m₂ → m₂ x = some v → Fr h₀ L s₃.heap m → News h₀ L s₃.heap ((C, oC) :: news) → (∀ q ∈ news, q.1 < C) →
      wpAny (model prog w) A (eval i2 (cenvOf C)) (InnerAt prog w A cenvOf x y ifs2 elt h₀ L m news FF v C s₃) E' s₃)
    (hR : ∀ h' tk m' (vs : List Value) (wss : List (List Value)), h'.Ns C m' → h'.PlainList D wss.flatten.toArray → vs.length = n → (∀ (j : Nat) v, vs[j]? = some v → P j v) → Paired FF vs wss →
      (∀ b o, b ≠ C → b ≠ I → b ≠ D → s.heap.get? b = some o → h'.get? b = some o) → R (.ok .next) { s with heap := h', toks := tk }) :
    codeAny (model prog w) A (.compLoop (E2 elt x px i1 y py i2 ifs2 scope pos) 0 (.ref I) (.ref D) (cenvOf C)) R s := by
  have hIf : I ∈ fp := W.sub I (List.mem_singleton.mpr rfl)
  have hCI : C ≠ I := fun e => hCf (e ▸ hIf)
  have hDI : D ≠ I := fun e => hDf (e ▸ hIf)
  have frOf : ∀ h : Heap, (∀ b o, b ≠ C → b ≠ I → b ≠ D → s.heap.get? b = some o → h.get? b = some o) → Fr h₀ L h m ∧ News h₀ L h news := by
    intro h k
    obtain ⟨oL, es, ep, hL, r⟩ := F.ns
    refine ⟨⟨⟨oL, es, ep, k L oL (Ne.symm hCL) (Ne.symm hIL) (Ne.symm hDL) hL, r⟩, fun b o e => k b o ?_ ?_ ?_ (F.keep b o e), F.above⟩, fun q hq => ⟨k _ _ (Nat.ne_of_lt (hCn q hq)) (hIn q hq) (hDn q hq) (N q hq).1, (N q hq).2⟩⟩
    · rintro rfl; rw [hC0] at e; cases e
    · rintro rfl; rw [hI0] at e; cases e
    · rintro rfl; rw [hD0] at e; cases e
  have newsC : ∀ (h : Heap) (oC : Obj), News h₀ L h news → h.get? C = some oC → News h₀ L h ((C, oC) :: news) := fun h oC Nn e q hq => by
    rcases List.mem_cons.mp hq with rfl | hq
    · exact ⟨e, hCL, hC0⟩
    · exact Nn q hq
  refine codeAny_loop rfl (fun k s' => ∃ (h' : Heap) (tk : Nat) (m' : Str → Option Value) (wss : List (List Value)) (vs : List Value), s' = { s with heap := h', toks := tk } ∧ St vs.length h' ∧ h'.PlainList D wss.flatten.toArray ∧ h'.Ns C m' ∧
      (∀ (j : Nat) v, vs[j]? = some v → P j v) ∧ Paired FF vs wss ∧ (∀ ws ∈ wss, ws.length ≤ 1000) ∧ vs.length ≤ n ∧ k = n + 1 - vs.length ∧ (∀ b o, b ≠ C → b ≠ I → b ≠ D → s.heap.get? b = some o → h'.get? b = some o)) ?_ (n + 1)
    ⟨s.heap, s.toks, mc, [], [], rfl, hst, by simpa using hacc, hn, by simp, .nil, by simp, Nat.zero_le _, rfl, fun _ _ _ _ _ e => e⟩
  rintro k s' ⟨H, tk, m', wss, vs, rfl, hst', hacc', hn', hP, hF, hW, hi, rfl, hk⟩
  show wpAny _ A ((compTurn (E2 elt x px i1 y py i2 ifs2 scope pos) 0 (.ref I) (.ref D) (cenvOf C)).onRaise (fun x => do noteFrame x (cenvOf C); theTreesLotGoes x)) _ _ _
  refine wpAny_noted ?_
  rw [turn_outer]
  refine wpAny_bind (wpAny_standAt (wpAny_bind ?_))
  by_cases hlt : vs.length < n
  · refine W.item vs.length _ _ _ hlt hst' fun v h₁ tk₁ hPv hst₁ hk₁ => ?_
    refine wpAny_bind (wpAny_of_eq (a := ()) (by rfl) (wpAny_bind ?_))
    have kI : ∀ b o, b ≠ I → H.get? b = some o → h₁.get? b = some o := fun b o hb e => hk₁ b o (fun hm => hb (List.mem_singleton.mp hm)) e
    refine wpAny_assign_Name (wpAny_storeName_local (m := m') hx (hcenv.symm ▸ hn'.at' fun o e => kI _ o hCI e) (fun h₂ hn₂ hs₂ => ?_) hp)
    rw [hcenv] at hn₂ hs₂
    have up₂ : ∀ b o, b ≠ C → b ≠ I → H.get? b = some o → h₂.get? b = some o := fun b o hbC hbI e => hs₂.extBut b o hbC (kI b o hbI e)
    have hst₂ : St (vs.length + 1) h₂ := W.frame _ _ _ hst₁ fun b hb o e => hs₂.extBut b o (fun h => hCf (h ▸ hb)) e
    have k2 : ∀ b o, b ≠ C → b ≠ I → b ≠ D → s.heap.get? b = some o → h₂.get? b = some o := fun b o hbC hbI hbD e => up₂ b o hbC hbI (hk b o hbC hbI hbD e)
    obtain ⟨oC, hoC, hns⟩ := LCg.ns_obj hn₂
    obtain ⟨F2, N2⟩ := frOf h₂ k2
    refine wpAny_bind (wpAny_mono (inner vs.length v C oC _ { s with heap := h₂, toks := _ } _ hPv hns (by simp) F2 (newsC h₂ oC N2 hoC) hCn) (fun xv2 s₄ hin => ?_) fun _ _ e => e)
    obtain ⟨⟨h₄, tk₄, rfl, hk₄⟩, n2, P2, p2, F2', ⟨fp2, St2, o2, hiter, W2, hst2, hfp2⟩, hn2, ht2, he2, hfin2⟩ := hin
    refine wpAny_bind (wpAny_standAt (wpAny_bind ?_))
    rw [hs2]
    refine wpAny_pure (wpAny_bind (wpAny_holding (hiter _ _ ?_)))
    have hDlt : D < h₄.objs.size := by
      obtain ⟨c, e⟩ := hacc'
      exact Heap.lt_size (hk₄ _ _ (up₂ D _ hDC hDI e))
    have hClt : C < h₄.objs.size := Heap.lt_size (hk₄ _ _ hoC)
    have hD2 : D ∉ fp2 := fun hm => by
      rcases hfp2 D hm with h | h | ⟨q, hq, h⟩ | h
      · exact Nat.ne_of_lt hDlt h
      · exact h hD0
      · exact hDn q hq h.symm
      · obtain ⟨c, e⟩ := hacc'
        have := up₂ D _ hDC hDI e
        rw [show h₂.get? D = none from h] at this; cases this
    have hC2 : C ∉ fp2 := fun hm => by
      rcases hfp2 C hm with h | h | ⟨q, hq, h⟩ | h
      · exact Nat.ne_of_lt hClt h
      · exact h hC0
      · exact Nat.ne_of_lt (hCn q hq) h.symm
      · rw [show h₂.get? C = none from h] at hoC; cases hoC
    have k4 : ∀ b o, h₂.get? b = some o → (h₄.push o2).get? b = some o := fun b o e => Heap.get?_push_of_some _ (hk₄ b o e)
    have hI2 : ∀ b o, h₂.get? b = some o → b ≠ h₄.objs.size := fun b o e => Nat.ne_of_lt (Heap.lt_size (hk₄ b o e))
    have hacc4 : (h₄.push o2).PlainList D wss.flatten.toArray := hacc'.at fun o e => k4 _ o (up₂ D o hDC hDI e)
    have hn4 := hn₂.keeps k4
    have hflat : wss.flatten.length ≤ 1000000 := by
      have := paired_lens hF hW
      have h2 : vs.length * 1000 ≤ 1000 * 1000 := Nat.mul_le_mul_right _ (by omega)
      omega
    have key : ∀ R' : Result → Shared → Prop, (∀ (h6 : Heap) (tk6 : Nat) (m6 : Str → Option Value) (ws vs2 : List Value), h6.Ns C m6 → h6.PlainList D (wss.flatten ++ ws).toArray → vs2.length = n2 → (∀ (j : Nat) (u : Value), vs2[j]? = some u → P2 j u) → Paired F2' (vs2.filter p2) ws →
        (∀ b o, b ≠ C → b ≠ h₄.objs.size → b ≠ D → (h₄.push o2).get? b = some o → h6.get? b = some o) → R' (.ok .next) { s with heap := h6, toks := tk6 }) →
        codeAny (model prog w) A (.compLoop (E2 elt x px i1 y py i2 ifs2 scope pos) 1 (.ref h₄.objs.size) (.ref D) (cenvOf C)) R' { s with heap := h₄.push o2, toks := tk₄ } := by
      intro R' hfin
      refine inner_loop (s := { s with heap := h₄.push o2, toks := tk₄ }) (cenv := cenvOf C) W2 p2 F2' hy hp (by rw [hcenv]; exact hDC) hD2 (by rw [hcenv]; exact hC2) hst2 hacc4 (by rw [hcenv]; exact hn4) (by rw [sizeLine_eq]; omega) ?_ ?_ ?_
      · intro i u s₅ m₅ E' hPu hn5 hm5 hoth hk5
        rw [hcenv] at hn5 hk5
        obtain ⟨oC5, hoC5, hns5⟩ := LCg.ns_obj hn5
        obtain ⟨F5, N5⟩ := frOf s₅.heap fun b o hbC hbI hbD e => hk5 b o hbC (hI2 b o (k2 b o hbC hbI hbD e)) hbD (k4 b o (k2 b o hbC hbI hbD e))
        exact ht2 i u oC5 m₅ s₅ E' hPu hns5 (by rw [hoth x hxy]; simp) hm5 F5 (newsC _ _ N5 hoC5)
      · intro i u s₅ m₅ E' hPu hpu hn5 hm5 hoth hk5
        rw [hcenv] at hn5 hk5
        obtain ⟨oC5, hoC5, hns5⟩ := LCg.ns_obj hn5
        obtain ⟨F5, N5⟩ := frOf s₅.heap fun b o hbC hbI hbD e => hk5 b o hbC (hI2 b o (k2 b o hbC hbI hbD e)) hbD (k4 b o (k2 b o hbC hbI hbD e))
        exact he2 i u oC5 m₅ s₅ E' hPu hpu hns5 (by rw [hoth x hxy]; simp) hm5 F5 (newsC _ _ N5 hoC5)
      · intro h6 tk6 m6 ws vs2 hn6 _ hacc6 hlen2 hP2 hF2 hk6
        rw [hcenv] at hn6 hk6
        exact hfin h6 tk6 m6 ws vs2 hn6 hacc6 hlen2 hP2 hF2 hk6
    refine wpAny_bind (wpAny_runOwn ?_)
    show codeAny (model prog w) A _ _ _
    refine (fun fin => start_inner (key _ fin) (W2.self 0 _ _ _ hst2 (key _ fin))) ?_
    intro h6 tk6 m6 ws vs2 hn6 hacc6 hlen2 hP2 hF2 hk6
    have hPv' : ∀ (j : Nat) u, (vs ++ [v])[j]? = some u → P j u := fun j u hj => by
      rcases Nat.lt_trichotomy j vs.length with h | h | h
      · exact hP j u (by rwa [List.getElem?_append_left h] at hj)
      · subst h; simp at hj; subst hj; exact hPv
      · have hnone : (vs ++ [v])[j]? = none := List.getElem?_eq_none (by rw [List.length_append, List.length_singleton]; omega)
        rw [hnone] at hj; cases hj
    have hl1 : (vs ++ [v]).length = vs.length + 1 := by simp
    have hwl : ws.length ≤ 1000 := by
      have e1 := hF2.length
      have e2 : (vs2.filter p2).length ≤ vs2.length := List.length_filter_le _ _
      omega
    refine wpAny_pure ⟨rfl, n + 1 - (vs.length + 1), by omega, h6, tk6, m6, wss ++ [ws], vs ++ [v], rfl, ?_, ?_, hn6, hPv', Paired.snoc hF (hfin2 vs2 ws hlen2 hP2 hF2), ?_, by rw [hl1]; exact hlt, by rw [hl1], fun b o hbC hbI hbD e => ?_⟩
    · rw [hl1]
      exact W.frame _ _ h6 hst₂ fun b hb o e => hk6 b o (fun h => hCf (h ▸ hb)) (hI2 b o e) (fun h => hDf (h ▸ hb)) (k4 b o e)
    · simpa using hacc6
    · intro z hz
      rcases List.mem_append.mp hz with h | h
      · exact hW z h
      · rw [List.mem_singleton.mp h]; exact hwl
    · exact hk6 b o hbC (hI2 b o (k2 b o hbC hbI hbD e)) hbD (k4 b o (k2 b o hbC hbI hbD e))
  · have hin : vs.length = n := by omega
    refine W.done _ _ _ (hin ▸ hst') fun h₁ tk₁ hk₁ => ?_
    have kI : ∀ b o, b ≠ I → H.get? b = some o → h₁.get? b = some o := fun b o hb e => hk₁ b o (fun hm => hb (List.mem_singleton.mp hm)) e
    exact wpAny_pure (hR h₁ tk₁ m' vs wss (hn'.at' fun o e => kI _ o hCI e) (hacc'.at fun o e => kI _ o hDI e) hin hP hF fun b o hbC hbI hbD e => kI b o hbI (hk b o hbC hbI hbD e))
end

section
variable {prog : Program} {w : World} {A : Around} {E : Value → Shared → Prop} {env : Env} {s : Shared}
theorem comp2_at {elt i1 i2 : Expr} {x y : Str} {px py : Pos} {ifs2 : List Expr} {scope : Scope} {cl : List (Str × Addr)} {pos : Pos} {Q : Value → Shared → Prop}
    (hclos : closureFor scope env = pure cl) (hcell : ∀ z ∈ scope.names, z.2 ≠ .cell) (hkind : scope.kind = .function)
    (hnames : ∀ z ∈ scope.names, z.2 = .local → scope.names.lookup z.1 = some .local) (hx : scope.names.lookup x = some .local) (hy : scope.names.lookup y = some .local) (hxy : x ≠ y)
    (h : wpAny (model prog w) A (eval i1 env) (Comp2At prog w A (fun C => compEnvC scope cl C env) x y i2 ifs2 elt Q) E s)
    (hs : ∀ z, foldedSetIterable i1 env z = pure z := by intro _; rfl) (hs2 : ∀ C z, foldedSetIterable i2 (compEnvC scope cl C env) z = pure z := by intro _ _; rfl) :
    wpAny (model prog w) A (eval (.ListComp elt [⟨.Name x px, i1, [], 0⟩, ⟨.Name y py, i2, ifs2, 0⟩] scope pos) env) Q E s := by
  rw [eval_ListComp]
  refine wpAny_comprehension_free (use := none) rfl hs hclos hkind hnames (wpAny_mono h (fun xv s₁ h₁ => ?_) fun _ _ e => e)
  obtain ⟨n, P, h₀, L, m, news, FF, ⟨fp, St, oI, hiter, W, hst, hfp⟩, hsz, F, N, hin, hd⟩ := h₁
  refine hiter _ _ ?_
  generalize hH : s₁.heap.push oI = H1 at hst ⊢
  have old1 : ∀ b o, s₁.heap.get? b = some o → H1.get? b = some o := fun b o e => hH ▸ Heap.get?_push_of_some _ e
  have hsz1 : H1.objs.size = s₁.heap.objs.size + 1 := by rw [← hH, Heap.size_push]
  refine wpAny_newObj_type (wpAny_newFunctionEnv hcell (by intro z hz; simp at hz) (fun h₁ hns₁ hsb₁ => ?_) hkind)
  dsimp only at hns₁ hsb₁ ⊢
  generalize hH2 : H1.push { cls := .type "list", dict := none, data := .seq ([] : List Value).toArray } = H2 at hns₁ hsb₁ ⊢
  have hC : H2.objs.size = H1.objs.size + 1 := by rw [← hH2, Heap.size_push]
  have hDC : H1.objs.size ≠ H2.objs.size := by rw [hC]; exact Nat.ne_of_lt (Nat.lt_succ_self _)
  have below : ∀ b, b < H1.objs.size → b ≠ H2.objs.size ∧ b ≠ H1.objs.size := fun b hb => ⟨by rw [hC]; exact Nat.ne_of_lt (Nat.lt_succ_of_lt hb), Nat.ne_of_lt hb⟩
  have hfp' : ∀ b ∈ fp, b < H1.objs.size := fun b hb => by rw [hsz1]; exact hfp b hb
  have hDf : H1.objs.size ∉ fp := fun hm => Nat.lt_irrefl _ (hfp' _ hm)
  have hCf : H2.objs.size ∉ fp := fun hm => by have := hfp' _ hm; rw [hC] at this; exact Nat.lt_irrefl _ (Nat.lt_of_succ_lt this)
  have old : ∀ b o, H1.get? b = some o → h₁.get? b = some o := fun b o e => hsb₁.extBut b o (below b (Heap.lt_size e)).1 (Heap.get?_push_of_some _ (hH2 ▸ Heap.get?_push_of_some _ e))
  have hacc : h₁.PlainList H1.objs.size #[] := ⟨_, hsb₁.extBut _ _ hDC (Heap.get?_push_of_some _ (hH2 ▸ Heap.get?_push_size _ rfl))⟩
  have hst₁ : St 0 h₁ := W.frame _ _ _ hst fun b _ o e => old b o e
  have fresh1 : ∀ a, s₁.heap.objs.size ≤ a → s₁.heap.get? a = none := fun a ha => Heap.get?_none_of_le ha
  have fresh0 : ∀ a, s₁.heap.objs.size ≤ a → h₀.get? a = none := fun a ha => by
    cases e : h₀.get? a with
    | none => rfl
    | some o' => have := F.keep a o' e; rw [fresh1 a ha] at this; cases this
  have neL : ∀ a, s₁.heap.objs.size ≤ a → a ≠ L := fun a ha e => by
    have := F.ns.lt
    rw [← e] at this
    exact absurd (Nat.lt_of_lt_of_le this ha) (Nat.lt_irrefl _)
  have ltN : ∀ q ∈ news, q.1 < s₁.heap.objs.size := fun q hq => Heap.lt_size (N q hq).1
  have hIs : s₁.heap.objs.size ≤ s₁.heap.objs.size := Nat.le_refl _
  have hDs : s₁.heap.objs.size ≤ H1.objs.size := by rw [hsz1]; exact Nat.le_succ _
  have hCs : s₁.heap.objs.size ≤ H2.objs.size := by rw [hC, hsz1]; exact Nat.le_succ_of_le (Nat.le_succ _)
  have k1 : ∀ b o, s₁.heap.get? b = some o → h₁.get? b = some o := fun b o e => old b o (old1 b o e)
  have fin : ∀ (tk0 : Nat), codeAny (model prog w) A (.compLoop (E2 elt x px i1 y py i2 ifs2 scope pos) 0 (.ref s₁.heap.objs.size) (.ref H1.objs.size) (compEnvC scope cl H2.objs.size env))
      (compPost (model prog w) A E none Q (.ref H1.objs.size) H2.objs.size) { s₁ with heap := h₁, toks := tk0 } := by
    intro tk0
    refine outer_loop (s := { s₁ with heap := h₁, toks := tk0 }) (cenvOf := fun C => compEnvC scope cl C env) (C := H2.objs.size) W rfl (lookup_relabel_local hx) (lookup_relabel_local hy) hxy (by simp [compEnvC, relabel, hkind]) (hs2 _) hDC hDf hCf hst₁ hacc hns₁ hsz
      (F.keeps k1) (fun q hq => ⟨k1 _ _ (N q hq).1, (N q hq).2⟩) (fresh0 _ hCs) (neL _ hCs) (fun q hq => Nat.lt_of_lt_of_le (ltN q hq) hCs) (fresh0 _ hDs) (neL _ hDs) (fun q hq => Nat.ne_of_lt (Nat.lt_of_lt_of_le (ltN q hq) hDs)) (fresh0 _ hIs) (neL _ hIs) (fun q hq => Nat.ne_of_lt (ltN q hq)) hin ?_
    intro h' tk m' vs wss hn' hpl hlen hP hF hk
    refine ⟨m', hn', fun h'' hs'' => ?_⟩
    have k2 : ∀ b o, s₁.heap.get? b = some o → h''.get? b = some o := fun b o e => by
      have hb := Heap.lt_size e
      exact hs''.extBut b o (Nat.ne_of_lt (Nat.lt_of_lt_of_le hb hCs)) (hk b o (Nat.ne_of_lt (Nat.lt_of_lt_of_le hb hCs)) (Nat.ne_of_lt hb) (Nat.ne_of_lt (Nat.lt_of_lt_of_le hb hDs)) (k1 b o e))
    exact hd H1.objs.size h'' tk vs wss hlen hP (F.keeps k2) (fun q hq => ⟨k2 _ _ (N q hq).1, (N q hq).2⟩) (hpl.extBut hs''.extBut hDC) (fresh1 _ hDs) k2 hF
  exact start_outer (cenv := compEnvC scope cl H2.objs.size env) (fin _) (W.self 0 _ _ _ hst₁ (fin _))
end
end Mine
end
section
open PySem PySem.W PyProof.Rows PySem.Calls
set_option maxRecDepth 100000
set_option maxHeartbeats 0
namespace Mine
abbrev cellObj (v : Option Value) : Obj := { cls := .type "cell", data := .cell v }
section
variable {M : Model} {A : Around} {E : Value → Shared → Prop} {s : Shared}
theorem newEnv_cell {scope : Scope} {globals : Addr} {cl : List (Str × Addr)} {qual : Str} {env : Env} {x : Str} {Q : Env → Shared → Prop} (hc : ∀ n, cellsFrom n scope.names cl = (x, n) :: cl) (hp : ∀ h, pushCells h scope.names = h.push (cellObj none))
    (h : Q { scope, locals := s.heap.objs.size, globals, cells := (x, s.heap.objs.size + 1) :: cl, qual, func := none, code := env.code, frame := env.frame, builtins := env.builtins } { s with heap := (s.heap.push { cls := .type "dict", data := .dict #[] }).push (cellObj none) }) :
    wpAny M A (newFunctionEnv scope globals cl [] qual none .none (some env)) Q E s := by
  simp only [newFunctionEnv, Option.isSome_some, if_true]
  refine wpAny_bind (wpAny_alloc ?_)
  refine wpAny_bind (wpAny_layCells _ (fun name kind cells => by cases hkc : kind == NameKind.cell <;> simp [hkc]) _ _ _ _ ?_)
  rw [hc, hp]
  refine wpAny_bind (wpAny_pure (wpAny_pure ?_))
  rw [Heap.size_push]
  exact h
end

section
variable {prog : Program} {w : World} {A : Around} {E : Value → Shared → Prop} {env : Env} {s : Shared}
/-- behind the loop: the list is stored under its name, then the block's own names go -/
theorem post_use {z : Str} {pz : Pos} {D C L : Addr} {h₀ h' : Heap} {m m' : Str → Option Value} {news : List (Addr × Obj)} {ys : Array Value} {tk : Nat} {Q : Flow → Shared → Prop}
    (hz : env.kindOf z = some .local) (hp : (env.scope.kind == .class || (env.scope.kind == .module && env.locals != env.globals)) = false) (hL : env.locals = L)
    (F : Fr h₀ L h' m) (N : News h₀ L h' news) (hn : h'.Ns C m') (hCL : C ≠ L) (hDL : D ≠ L) (hDC : D ≠ C) (hpl : h'.PlainList D ys) (hC0 : h₀.get? C = none) (hCn : ∀ q ∈ news, q.1 ≠ C)
    (k : ∀ h'' tk'', Fr h₀ L h'' (fun y => if y = z then some (.ref D) else m y) → News h₀ L h'' news → h''.PlainList D ys → (∀ b o, b ≠ L → b ≠ C → h'.get? b = some o → h''.get? b = some o) → Q .next { s with heap := h'', toks := tk'' }) :
    compPost (model prog w) A E (some (assign (.Name z pz) env)) (fun _ s' => Q .next s') (.ref D) C (.ok .next) { s with heap := h', toks := tk } := by
  show wpAny _ A (assign (.Name z pz) env (.ref D)) _ _ _
  refine wpAny_assign_Name (wpAny_storeName_local (m := m) hz (hL.symm ▸ F.ns) (fun h₂ hn₂ hs₂ => ?_) hp)
  rw [hL] at hn₂ hs₂
  refine ⟨m', hn.at' fun o e => hs₂.extBut _ o hCL e, fun h'' hs'' => ?_⟩
  have k2 : ∀ b o, b ≠ L → b ≠ C → h'.get? b = some o → h''.get? b = some o := fun b o h1 h2 e => hs''.extBut b o h2 (hs₂.extBut b o h1 e)
  refine k h'' _ ⟨hn₂.at' fun o e => hs''.extBut _ o (Ne.symm hCL) e, fun b o e => k2 b o ?_ ?_ (F.keep b o e), F.above⟩ (fun q hq => ⟨k2 _ _ (N q hq).2.1 (hCn q hq) (N q hq).1, (N q hq).2⟩) (hpl.at fun o e => k2 _ o hDL hDC e) k2
  · exact Nat.ne_of_lt (Nat.lt_of_lt_of_le (Heap.lt_size e) F.above)
  · rintro rfl; rw [hC0] at e; cases e
def UseEnd (Q : Flow → Shared → Prop) (z : Str) (h₀ : Heap) (L : Addr) (m : Str → Option Value) (news : List (Addr × Obj)) (s₁ : Shared) (Pr : List Value → Prop) : Prop :=
  ∀ (D : Addr) (h' : Heap) (tk : Nat) (ys : List Value), Pr ys → Fr h₀ L h' (fun y => if y = z then some (.ref D) else m y) → News h₀ L h' news → h'.PlainList D ys.toArray → s₁.heap.get? D = none → (∀ b o, b ≠ L → s₁.heap.get? b = some o → h'.get? b = some o) → Q .next { s₁ with heap := h', toks := tk }
/-- the turns of a comprehension of one clause -/
def CompTurns (prog : Program) (w : World) (A : Around) (env : Env) (scope : Scope) (cl : List (Str × Addr)) (x : Str) (ifs : List Expr) (elt : Expr) (h₀ : Heap) (L : Addr) (m : Str → Option Value) (news : List (Addr × Obj)) (P : Nat → Value → Prop) (p : Value → Bool) (FF : Value → Value → Prop) : Prop :=
    (∀ (i : Nat) (v : Value) (C : Addr) (oC : Obj) (m₂ : Str → Option Value) (s₃ : Shared) (E' : Value → Shared → Prop), P i v → LCg.NsObj oC m₂ → m₂ x = some v → Fr h₀ L s₃.heap m → News h₀ L s₃.heap ((C, oC) :: news) → (∀ q ∈ news, q.1 < C) →
      wpAny (model prog w) A (forIn ifs true fun c r => if r = true then do let ok ← isTrue c (compEnvC scope cl C env) (eval c (compEnvC scope cl C env)); pure (ForInStep.yield ok) else pure (ForInStep.yield r)) (fun ok s₄ => ok = p v ∧ Keeps s₃ s₄) E' s₃) ∧
    (∀ (i : Nat) (v : Value) (C : Addr) (oC : Obj) (m₂ : Str → Option Value) (s₃ : Shared) (E' : Value → Shared → Prop), P i v → p v = true → LCg.NsObj oC m₂ → m₂ x = some v → Fr h₀ L s₃.heap m → News h₀ L s₃.heap ((C, oC) :: news) → (∀ q ∈ news, q.1 < C) →
      wpAny (model prog w) A (eval elt (compEnvC scope cl C env)) (fun y s₄ => FF v y ∧ Keeps s₃ s₄) E' s₃)
/-- what is to be shown of a comprehension that a statement stores -/
def UseAt (prog : Program) (w : World) (A : Around) (env : Env) (scope : Scope) (cl : List (Str × Addr)) (x : Str) (ifs : List Expr) (elt : Expr) (z : Str) (Q : Flow → Shared → Prop) (xv : Value) (s₁ : Shared) : Prop :=
  ∃ (n : Nat) (P : Nat → Value → Prop) (h₀ : Heap) (L : Addr) (m : Str → Option Value) (news : List (Addr × Obj)) (p : Value → Bool) (FF : Value → Value → Prop),
    Src prog w A xv s₁ n P ∧ n ≤ sizeLine ∧ env.locals = L ∧ Fr h₀ L s₁.heap m ∧ News h₀ L s₁.heap news ∧ CompTurns prog w A env scope cl x ifs elt h₀ L m news P p FF ∧
    UseEnd Q z h₀ L m news s₁ (fun ys => ∃ vs : List Value, vs.length = n ∧ (∀ (j : Nat) (v : Value), vs[j]? = some v → P j v) ∧ Paired FF (vs.filter p) ys)
theorem comp_use {elt iter : Expr} {x z : Str} {px pz : Pos} {ifs : List Expr} {scope : Scope} {cl : List (Str × Addr)} {pos spos : Pos} {Q : Flow → Shared → Prop}
    (hsw : swapsWith (.ListComp elt [⟨.Name x px, iter, ifs, 0⟩] scope pos) (some (.Name z pz)) spos.line env = pure true)
    (hclos : closureFor scope env = pure cl) (hcell : ∀ y ∈ scope.names, y.2 ≠ .cell) (hkind : scope.kind = .function)
    (hnames : ∀ y ∈ scope.names, y.2 = .local → scope.names.lookup y.1 = some .local) (hx : scope.names.lookup x = some .local)
    (hz : env.kindOf z = some .local) (hp : (env.scope.kind == .class || (env.scope.kind == .module && env.locals != env.globals)) = false)
    (h : wpAny (model prog w) A (eval iter env) (UseAt prog w A env scope cl x ifs elt z Q) E s)
    (hs : ∀ x, foldedSetIterable iter env x = pure x := by intro _; rfl) :
    wpAny (model prog w) A (exec (.Assign [.Name z pz] (.ListComp elt [⟨.Name x px, iter, ifs, 0⟩] scope pos) spos) env) Q E s := by
  rw [exec_Assign_Name_used _ _ _ _ hsw]
  refine wpAny_bind (wpAny_standAt (wpAny_bind ?_))
  show wpAny _ A (do let _ ← comprehension (.ListComp elt [⟨.Name x px, iter, ifs, 0⟩] scope pos) scope env _ (newList []) false (eval iter env) (some (assign (.Name z pz) env))) _ _ s
  refine wpAny_bind (wpAny_mono (wpAny_comprehension_free (use := some (assign (.Name z pz) env)) (Q := fun _ s' => Q .next s') rfl hs hclos hkind hnames
    (wpAny_mono h (fun xv s₁ h₁ => ?_) fun _ _ e => e)) (fun _ s' hq => wpAny_pure (wpAny_pure hq)) fun _ _ e => e)
  obtain ⟨n, P, h₀, L, m, news, p, FF, ⟨fp, St, oI, hiter, W, hst, hfp⟩, hsz, hL, F, N, ⟨ht, he⟩, hd⟩ := h₁
  refine hiter _ _ ?_
  generalize hH : s₁.heap.push oI = H1 at hst ⊢
  have old : ∀ b o, s₁.heap.get? b = some o → H1.get? b = some o := fun b o e => hH ▸ Heap.get?_push_of_some _ e
  have hsz1 : H1.objs.size = s₁.heap.objs.size + 1 := by rw [← hH, Heap.size_push]
  have turnFacts : ∀ (C : Addr) (s₃ : Shared) (m₃ : Str → Option Value), H1.objs.size ≤ C → s₃.heap.Ns C m₃ → (∀ b o, b ∉ [s₁.heap.objs.size] → H1.get? b = some o → s₃.heap.get? b = some o) →
      ∃ oC, LCg.NsObj oC m₃ ∧ Fr h₀ L s₃.heap m ∧ News h₀ L s₃.heap ((C, oC) :: news) ∧ (∀ q ∈ news, q.1 < C) := by
    intro C s₃ m₃ hC hn hk
    obtain ⟨oC, hoC, hns⟩ := LCg.ns_obj hn
    have k3 : ∀ b o, s₁.heap.get? b = some o → s₃.heap.get? b = some o := fun b o e => hk b o (by
      intro hm
      rw [List.mem_singleton.mp hm] at e
      exact absurd (Heap.lt_size e) (Nat.lt_irrefl _)) (old b o e)
    have hCn : s₁.heap.objs.size ≤ C := by rw [hsz1] at hC; exact Nat.le_of_succ_le hC
    have hnone : s₁.heap.get? C = none := Heap.get?_none_of_le hCn
    refine ⟨oC, hns, F.keeps k3, fun q hq => ?_, fun q hq => Nat.lt_of_lt_of_le (Heap.lt_size (N q hq).1) hCn⟩
    rcases List.mem_cons.mp hq with rfl | hq
    · refine ⟨hoC, fun e => ?_, ?_⟩
      · have := F.ns.lt
        rw [← e] at this
        exact absurd (Nat.lt_of_lt_of_le this hCn) (Nat.lt_irrefl _)
      · cases q : h₀.get? C with
        | none => rfl
        | some o => have := F.keep _ _ q; rw [hnone] at this; cases this
    · exact ⟨k3 _ _ (N q hq).1, (N q hq).2⟩
  refine comp_block_walkC (RR := fun acc C => compPost (model prog w) A E (some (assign (.Name z pz) env)) (fun _ s' => Q .next s') acc C) (s₂ := { s₁ with heap := H1 }) W hsz p FF hcell hkind hx hst (fun b hb => ?_) ⟨?_, ?_⟩ ?_
  · show b < H1.objs.size; rw [hsz1]; exact hfp b hb
  · intro C i v s₃ m₃ E' hC hP hn hm hk _
    obtain ⟨oC, h1, h2, h3, h4⟩ := turnFacts C s₃ m₃ hC hn hk
    exact ht i v C oC m₃ s₃ E' hP h1 hm h2 h3 h4
  · intro C i v s₃ m₃ E' hC hP hp hn hm hk _
    obtain ⟨oC, h1, h2, h3, h4⟩ := turnFacts C s₃ m₃ hC hn hk
    exact he i v C oC m₃ s₃ E' hP hp h1 hm h2 h3 h4
  · intro D C h' tk m' ys vs' hD hC hDC hn hlD hplD hlen hP hF hk
    have k0 : ∀ b o, s₁.heap.get? b = some o → h'.get? b = some o := fun b o e => hk b o (by
      intro hm
      rw [List.mem_singleton.mp hm] at e
      exact absurd (Heap.lt_size e) (Nat.lt_irrefl _)) (old b o e)
    have none1 : ∀ b, H1.get? b = none → s₁.heap.get? b = none := fun b e => by
      cases q : s₁.heap.get? b with
      | none => rfl
      | some o => have := old _ _ q; rw [e] at this; cases this
    have none0 : ∀ b, H1.get? b = none → h₀.get? b = none := fun b e => by
      cases q : h₀.get? b with
      | none => rfl
      | some o => have := F.keep _ _ q; rw [none1 b e] at this; cases this
    have neL : ∀ b, H1.get? b = none → b ≠ L := fun b e hb => by
      obtain ⟨oL, _, _, hoL, _⟩ := F.ns
      have := old _ _ hoL
      rw [← hb, e] at this; cases this
    refine post_use hz hp hL (F.keeps k0) (fun q hq => ⟨k0 _ _ (N q hq).1, (N q hq).2⟩) hn (neL C hC) (neL D hD) hDC hplD (none0 C hC) (fun q hq e => by
      have := old _ _ (N q hq).1
      rw [e, hC] at this; cases this) fun h'' tk'' F2 N2 hpl2 k2 => ?_
    refine hd D h'' tk'' ys.toList ⟨vs', hlen, hP, hF⟩ F2 N2 (by simpa using hpl2) (none1 D hD) fun b o hb e => k2 b o hb (fun q => ?_) (k0 b o e)
    rw [q, none1 C hC] at e; cases e
end
end Mine
end
section
open PySem PySem.W PyProof.Rows PySem.Calls
set_option maxRecDepth 100000
set_option maxHeartbeats 0
namespace Mine
section
variable {prog : Program} {w : World} {A : Around} {s : Shared} {elt iter : Expr} {x : Str} {px : Pos} {ifs : List Expr} {scope : Scope} {pos : Pos} {cenv : Env} {R : Result → Shared → Prop}
/-- the loop of a comprehension whose target stands in a cell -/
theorem cell_loop {I D C K : Addr} {fp : List Addr} {n : Nat} {P : Nat → Value → Prop} {St : Nat → Heap → Prop} {mc : Str → Option Value} (W : Walks prog w A I fp [I] n P St) (p : Value → Bool) (F : Value → Value → Prop)
    (hkf : cenv.scope.kind = .function) (hx : cenv.kindOf x = some .cell) (hcl : cenv.cells.lookup x = some K)
    (hDC : D ≠ C) (hDf : D ∉ fp) (hCf : C ∉ fp) (hKf : K ∉ fp) (hDK : D ≠ K) (hCK : C ≠ K) (hst : St 0 s.heap) (hacc : s.heap.PlainList D #[]) (hn : s.heap.Ns C mc) (hcell : s.heap.get? K = some (cellObj none))
    (hsz : n ≤ sizeLine)
    (htests : ∀ i v s₂ oK E', P i v → s₂.heap.Ns C mc → s₂.heap.get? K = some oK → oK.data = .cell (some v) → (∀ b o, b ≠ K → b ≠ I → b ≠ D → s.heap.get? b = some o → s₂.heap.get? b = some o) →
      wpAny (model prog w) A (forIn ifs true fun c r => if r = true then do let ok ← isTrue c cenv (eval c cenv); pure (ForInStep.yield ok) else pure (ForInStep.yield r)) (fun ok s₃ => ok = p v ∧ Keeps s₂ s₃) E' s₂)
    (helt : ∀ i v s₂ oK E', P i v → p v = true → s₂.heap.Ns C mc → s₂.heap.get? K = some oK → oK.data = .cell (some v) → (∀ b o, b ≠ K → b ≠ I → b ≠ D → s.heap.get? b = some o → s₂.heap.get? b = some o) →
      wpAny (model prog w) A (eval elt cenv) (fun u s₃ => F v u ∧ Keeps s₂ s₃) E' s₂)
    (hR : ∀ h' tk (vs ws : List Value), h'.Ns C mc → h'.PlainList D ws.toArray → vs.length = n → (∀ (j : Nat) v, vs[j]? = some v → P j v) → Paired F (vs.filter p) ws →
      (∀ b o, b ≠ K → b ≠ I → b ≠ D → s.heap.get? b = some o → h'.get? b = some o) → R (.ok .next) { s with heap := h', toks := tk }) :
    codeAny (model prog w) A (.compLoop (.ListComp elt [⟨.Name x px, iter, ifs, 0⟩] scope pos) 0 (.ref I) (.ref D) cenv) R s := by
  have hIf : I ∈ fp := W.sub I (List.mem_singleton.mpr rfl)
  have hCI : C ≠ I := fun e => hCf (e ▸ hIf)
  have hDI : D ≠ I := fun e => hDf (e ▸ hIf)
  have hKI : K ≠ I := fun e => hKf (e ▸ hIf)
  refine codeAny_compLoop_tests (fun k s' => ∃ (h' : Heap) (tk : Nat) (vs ws : List Value) (vc : Option Value), s' = { s with heap := h', toks := tk } ∧ St vs.length h' ∧ h'.PlainList D ws.toArray ∧ h'.Ns C mc ∧ h'.IsCell K vc ∧
      (∀ (j : Nat) v, vs[j]? = some v → P j v) ∧ Paired F (vs.filter p) ws ∧ vs.length ≤ n ∧ k = n + 1 - vs.length ∧ (∀ b o, b ≠ K → b ≠ I → b ≠ D → s.heap.get? b = some o → h'.get? b = some o)) ?_ (n + 1)
    ⟨s.heap, s.toks, [], [], none, rfl, hst, by simpa using hacc, hn, ⟨_, hcell, rfl⟩, by simp, .nil, Nat.zero_le _, rfl, fun _ _ _ _ _ e => e⟩
  rintro k s' ⟨H, tk, vs, ws, vc, rfl, hst', hacc', hn', hc', hP, hF, hi, rfl, hk⟩
  by_cases hlt : vs.length < n
  · refine W.item vs.length _ _ _ hlt hst' fun v h₁ tk₁ hPv hst₁ hk₁ => ?_
    have kI : ∀ b o, b ≠ I → H.get? b = some o → h₁.get? b = some o := fun b o hb e => hk₁ b o (fun hm => hb (List.mem_singleton.mp hm)) e
    have hc₁ : h₁.IsCell K vc := by obtain ⟨o, ho, hd⟩ := hc'; exact ⟨o, kI _ o hKI ho, hd⟩
    refine wpAny_assign_Name (wpAny_storeName_cell hkf hx hcl hc₁ fun h₂ hv₂ hs₂ => ?_)
    obtain ⟨oK, hoK, hdK⟩ := hv₂
    have up₂ : ∀ b o, b ≠ K → b ≠ I → H.get? b = some o → h₂.get? b = some o := fun b o hbK hbI e => hs₂.extBut b o hbK (kI b o hbI e)
    have hst₂ : St (vs.length + 1) h₂ := W.frame _ _ _ hst₁ fun b hb o e => hs₂.extBut b o (fun h => hKf (h ▸ hb)) e
    have hn₂ : h₂.Ns C mc := hn'.at' fun o e => up₂ C o hCK hCI e
    have k2 : ∀ b o, b ≠ K → b ≠ I → b ≠ D → s.heap.get? b = some o → h₂.get? b = some o := fun b o hbK hbI hbD e => up₂ b o hbK hbI (hk b o hbK hbI hbD e)
    refine wpAny_mono (htests vs.length v { s with heap := h₂, toks := tk₁ } oK _ hPv hn₂ hoK hdK k2) (fun ok s₃ h₃ => ?_) fun _ _ e => e
    obtain ⟨rfl, h₃, tk₃, rfl, hk₃⟩ := h₃
    have hst₃ : St (vs.length + 1) h₃ := W.frame _ _ _ hst₂ fun b _ o e => hk₃ b o e
    have hacc₃ : h₃.PlainList D ws.toArray := hacc'.at fun o e => hk₃ _ o (up₂ D o hDK hDI e)
    have hn₃ := hn₂.keeps hk₃
    have hP' : ∀ (j : Nat) u, (vs ++ [v])[j]? = some u → P j u := fun j u hj => by
      rcases Nat.lt_trichotomy j vs.length with h | h | h
      · exact hP j u (by rwa [List.getElem?_append_left h] at hj)
      · subst h; simp at hj; subst hj; exact hPv
      · have hnone : (vs ++ [v])[j]? = none := List.getElem?_eq_none (by rw [List.length_append, List.length_singleton]; omega)
        rw [hnone] at hj; cases hj
    have hl1 : (vs ++ [v]).length = vs.length + 1 := by simp
    cases hpv : p v with
    | false =>
      simp only [Bool.false_eq_true, if_false]
      refine ⟨n + 1 - (vs.length + 1), by omega, h₃, tk₃, vs ++ [v], ws, some v, rfl, by rw [hl1]; exact hst₃, hacc₃, hn₃, ⟨oK, hk₃ _ _ hoK, hdK⟩, hP', ?_, by rw [hl1]; exact hlt, by rw [hl1], fun b o hbK hbI hbD e => hk₃ b o (k2 b o hbK hbI hbD e)⟩
      rw [List.filter_append]; simpa [hpv] using hF
    | true =>
      simp only [if_true]
      refine wpAny_mono (helt vs.length v { s with heap := h₃, toks := tk₃ } oK _ hPv hpv hn₃ (hk₃ _ _ hoK) hdK fun b o hbK hbI hbD e => hk₃ b o (k2 b o hbK hbI hbD e)) (fun u s₄ h₄ => ?_) fun _ _ e => e
      obtain ⟨hFu, h₄, tk₄, rfl, hk₄⟩ := h₄
      have hlw : ws.length ≤ vs.length := by
        have e1 := hF.length
        have e2 : (vs.filter p).length ≤ vs.length := List.length_filter_le _ _
        omega
      refine wpAny_list_append_plain (hsz := by rw [List.size_toArray]; omega) (hacc₃.at fun o e => hk₄ _ o e) fun h₅ hl₅ hs₅ => ?_
      refine ⟨n + 1 - (vs.length + 1), by omega, h₅, tk₄, vs ++ [v], ws ++ [u], some v, rfl, ?_, ?_, (hn₃.keeps hk₄).sameBut hs₅ (Ne.symm hDC), ?_, hP', ?_, by rw [hl1]; exact hlt, by rw [hl1],
        fun b o hbK hbI hbD e => hs₅.extBut b o hbD (hk₄ b o (hk₃ b o (k2 b o hbK hbI hbD e)))⟩
      · rw [hl1]; exact W.frame _ _ h₅ hst₃ fun b hb o e => hs₅.extBut b o (fun h => hDf (h ▸ hb)) (hk₄ b o e)
      · simpa using hl₅
      · exact ⟨oK, hs₅.extBut _ _ (Ne.symm hDK) (hk₄ _ _ (hk₃ _ _ hoK)), hdK⟩
      · rw [List.filter_append]; simpa [hpv] using Paired.snoc hF hFu
  · have hin : vs.length = n := by omega
    refine W.done _ _ _ (hin ▸ hst') fun h₁ tk₁ hk₁ => ?_
    have kI : ∀ b o, b ≠ I → H.get? b = some o → h₁.get? b = some o := fun b o hb e => hk₁ b o (fun hm => hb (List.mem_singleton.mp hm)) e
    exact hR h₁ tk₁ vs ws (hn'.at' fun o e => kI _ o hCI e) (hacc'.at fun o e => kI _ o hDI e) hin hP hF fun b o hbK hbI hbD e => kI b o hbI (hk b o hbK hbI hbD e)
end
section
variable {prog : Program} {w : World} {A : Around} {E : Value → Shared → Prop} {env : Env} {s : Shared}
/-- the turns of a comprehension whose target stands in a cell -/
def CellTurns (prog : Program) (w : World) (A : Around) (env : Env) (scope : Scope) (cl : List (Str × Addr)) (x : Str) (ifs : List Expr) (elt : Expr) (h₀ : Heap) (L : Addr) (m : Str → Option Value) (news : List (Addr × Obj)) (P : Nat → Value → Prop) (p : Value → Bool) (FF : Value → Value → Prop) : Prop :=
    (∀ (i : Nat) (v : Value) (C : Addr) (oC oK : Obj) (m₂ : Str → Option Value) (s₃ : Shared) (E' : Value → Shared → Prop), P i v → LCg.NsObj oC m₂ → oK.data = .cell (some v) → Fr h₀ L s₃.heap m → News h₀ L s₃.heap ((C, oC) :: (C + 1, oK) :: news) → (∀ q ∈ news, q.1 < C) →
      wpAny (model prog w) A (forIn ifs true fun c r => if r = true then do let ok ← isTrue c (compEnvC scope ((x, C + 1) :: cl) C env) (eval c (compEnvC scope ((x, C + 1) :: cl) C env)); pure (ForInStep.yield ok) else pure (ForInStep.yield r)) (fun ok s₄ => ok = p v ∧ Keeps s₃ s₄) E' s₃) ∧
    (∀ (i : Nat) (v : Value) (C : Addr) (oC oK : Obj) (m₂ : Str → Option Value) (s₃ : Shared) (E' : Value → Shared → Prop), P i v → p v = true → LCg.NsObj oC m₂ → oK.data = .cell (some v) → Fr h₀ L s₃.heap m → News h₀ L s₃.heap ((C, oC) :: (C + 1, oK) :: news) → (∀ q ∈ news, q.1 < C) →
      wpAny (model prog w) A (eval elt (compEnvC scope ((x, C + 1) :: cl) C env)) (fun y s₄ => FF v y ∧ Keeps s₃ s₄) E' s₃)
def CellAt (prog : Program) (w : World) (A : Around) (env : Env) (scope : Scope) (cl : List (Str × Addr)) (x : Str) (ifs : List Expr) (elt : Expr) (z : Str) (Q : Flow → Shared → Prop) (xv : Value) (s₁ : Shared) : Prop :=
  ∃ (n : Nat) (P : Nat → Value → Prop) (h₀ : Heap) (L : Addr) (m : Str → Option Value) (news : List (Addr × Obj)) (p : Value → Bool) (FF : Value → Value → Prop),
    Src prog w A xv s₁ n P ∧ n ≤ sizeLine ∧ env.locals = L ∧ Fr h₀ L s₁.heap m ∧ News h₀ L s₁.heap news ∧ CellTurns prog w A env scope cl x ifs elt h₀ L m news P p FF ∧
    UseEnd Q z h₀ L m news s₁ (fun ys => ∃ vs : List Value, vs.length = n ∧ (∀ (j : Nat) (v : Value), vs[j]? = some v → P j v) ∧ Paired FF (vs.filter p) ys)
theorem cell_use {elt iter : Expr} {x z : Str} {px pz : Pos} {ifs : List Expr} {scope : Scope} {cl : List (Str × Addr)} {pos spos : Pos} {Q : Flow → Shared → Prop}
    (hsw : swapsWith (.ListComp elt [⟨.Name x px, iter, ifs, 0⟩] scope pos) (some (.Name z pz)) spos.line env = pure true)
    (hclos : closureFor scope env = pure cl) (hc : ∀ n, cellsFrom n scope.names cl = (x, n) :: cl) (hpc : ∀ h, pushCells h scope.names = h.push (cellObj none)) (hkind : scope.kind = .function)
    (hnames : ∀ y ∈ scope.names, y.2 = .local → scope.names.lookup y.1 = some .local) (hx : ∀ C, (compEnvC scope ((x, C + 1) :: cl) C env).kindOf x = some .cell)
    (hz : env.kindOf z = some .local) (hp : (env.scope.kind == .class || (env.scope.kind == .module && env.locals != env.globals)) = false)
    (h : wpAny (model prog w) A (eval iter env) (CellAt prog w A env scope cl x ifs elt z Q) E s)
    (hs : ∀ x, foldedSetIterable iter env x = pure x := by intro _; rfl) :
    wpAny (model prog w) A (exec (.Assign [.Name z pz] (.ListComp elt [⟨.Name x px, iter, ifs, 0⟩] scope pos) spos) env) Q E s := by
  rw [exec_Assign_Name_used _ _ _ _ hsw]
  refine wpAny_bind (wpAny_standAt (wpAny_bind ?_))
  show wpAny _ A (do let _ ← comprehension (.ListComp elt [⟨.Name x px, iter, ifs, 0⟩] scope pos) scope env _ (newList []) false (eval iter env) (some (assign (.Name z pz) env))) _ _ s
  refine wpAny_bind (wpAny_mono (wpAny_comprehension_free (use := some (assign (.Name z pz) env)) (Q := fun _ s' => Q .next s') rfl hs hclos hkind hnames
    (wpAny_mono h (fun xv s₁ h₁ => ?_) fun _ _ e => e)) (fun _ s' hq => wpAny_pure (wpAny_pure hq)) fun _ _ e => e)
  obtain ⟨n, P, h₀, L, m, news, p, FF, ⟨fp, St, oI, hiter, W, hst, hfp⟩, hsz, hL, F, N, ⟨ht, he⟩, hd⟩ := h₁
  refine hiter _ _ ?_
  generalize hH : s₁.heap.push oI = H1 at hst ⊢
  have old1 : ∀ b o, s₁.heap.get? b = some o → H1.get? b = some o := fun b o e => hH ▸ Heap.get?_push_of_some _ e
  have hsz1 : H1.objs.size = s₁.heap.objs.size + 1 := by rw [← hH, Heap.size_push]
  refine wpAny_newObj_type (newEnv_cell hc hpc ?_)
  dsimp only
  generalize hH2 : H1.push { cls := .type "list", dict := none, data := .seq ([] : List Value).toArray } = H2
  generalize hH3 : (H2.push { cls := .type "dict", data := .dict #[] }).push (cellObj none) = H3
  have hC : H2.objs.size = H1.objs.size + 1 := by rw [← hH2, Heap.size_push]
  have hsz3 : H3.objs.size = H2.objs.size + 2 := by rw [← hH3, Heap.size_push, Heap.size_push]
  have up12 : ∀ b o, H1.get? b = some o → H2.get? b = some o := fun b o e => hH2 ▸ Heap.get?_push_of_some _ e
  have up23 : ∀ b o, H2.get? b = some o → H3.get? b = some o := fun b o e => hH3 ▸ Heap.get?_push_of_some _ (Heap.get?_push_of_some _ e)
  have up13 : ∀ b o, H1.get? b = some o → H3.get? b = some o := fun b o e => up23 b o (up12 b o e)
  have hKobj : H3.get? (H2.objs.size + 1) = some (cellObj none) := by
    rw [← hH3]
    have := Heap.get?_push_size (H2.push { cls := .type "dict", data := .dict #[] }) (o := cellObj none) rfl
    rwa [Heap.size_push] at this
  have hCobj : H3.get? H2.objs.size = some { cls := .type "dict", data := .dict #[] } := by rw [← hH3]; exact Heap.get?_push_of_some _ (Heap.get?_push_size _ rfl)
  have hDobj : H3.get? H1.objs.size = some { cls := .type "list", dict := none, data := .seq ([] : List Value).toArray } := up23 _ _ (by rw [← hH2]; exact Heap.get?_push_size _ rfl)
  have hn3 : H3.Ns H2.objs.size (fun _ => none) := ⟨_, #[], _, hCobj, rfl, by simp [StrKeys], fun _ => by simp [nsFind, findBy]⟩
  have hfp' : ∀ b ∈ fp, b < H1.objs.size := fun b hb => by rw [hsz1]; exact hfp b hb
  have hDf : H1.objs.size ∉ fp := fun hm => Nat.lt_irrefl _ (hfp' _ hm)
  have a1 : H1.objs.size < H2.objs.size := by rw [hC]; exact Nat.lt_succ_self _
  have hCf : H2.objs.size ∉ fp := fun hm => Nat.lt_asymm a1 (hfp' _ hm)
  have hKf : H2.objs.size + 1 ∉ fp := fun hm => Nat.lt_asymm (Nat.lt_trans a1 (Nat.lt_succ_self _)) (hfp' _ hm)
  have hst3 : St 0 H3 := W.frame _ _ _ hst fun b _ o e => up13 b o e
  have hacc : H3.PlainList H1.objs.size #[] := ⟨_, hDobj⟩
  have k1 : ∀ b o, s₁.heap.get? b = some o → H3.get? b = some o := fun b o e => up13 b o (old1 b o e)
  have fresh1 : ∀ a, s₁.heap.objs.size ≤ a → s₁.heap.get? a = none := fun a ha => Heap.get?_none_of_le ha
  have fresh0 : ∀ a, s₁.heap.objs.size ≤ a → h₀.get? a = none := fun a ha => by
    cases e : h₀.get? a with
    | none => rfl
    | some o' => have := F.keep a o' e; rw [fresh1 a ha] at this; cases this
  have neL : ∀ a, s₁.heap.objs.size ≤ a → a ≠ L := fun a ha e => by
    have := F.ns.lt
    rw [← e] at this
    exact absurd (Nat.lt_of_lt_of_le this ha) (Nat.lt_irrefl _)
  have ltN : ∀ q ∈ news, q.1 < s₁.heap.objs.size := fun q hq => Heap.lt_size (N q hq).1
  have hDs : s₁.heap.objs.size ≤ H1.objs.size := by rw [hsz1]; exact Nat.le_succ _
  have hCs : s₁.heap.objs.size ≤ H2.objs.size := by rw [hC, hsz1]; exact Nat.le_succ_of_le (Nat.le_succ _)
  have hKs : s₁.heap.objs.size ≤ H2.objs.size + 1 := Nat.le_succ_of_le hCs
  have turnFacts : ∀ (s₃ : Shared) (oK : Obj), s₃.heap.Ns H2.objs.size (fun _ => none) → s₃.heap.get? (H2.objs.size + 1) = some oK → (∀ b o, b ≠ H2.objs.size + 1 → b ≠ s₁.heap.objs.size → b ≠ H1.objs.size → H3.get? b = some o → s₃.heap.get? b = some o) →
      ∃ oC, LCg.NsObj oC (fun _ => none) ∧ Fr h₀ L s₃.heap m ∧ News h₀ L s₃.heap ((H2.objs.size, oC) :: (H2.objs.size + 1, oK) :: news) ∧ (∀ q ∈ news, q.1 < H2.objs.size) := by
    intro s₃ oK hn hoK hk
    obtain ⟨oC, hoC, hns⟩ := LCg.ns_obj hn
    have k3 : ∀ b o, s₁.heap.get? b = some o → s₃.heap.get? b = some o := fun b o e => by
      have hb := Heap.lt_size e
      exact hk b o (Nat.ne_of_lt (Nat.lt_of_lt_of_le hb hKs)) (Nat.ne_of_lt hb) (Nat.ne_of_lt (Nat.lt_of_lt_of_le hb hDs)) (k1 b o e)
    refine ⟨oC, hns, F.keeps k3, fun q hq => ?_, fun q hq => Nat.lt_of_lt_of_le (ltN q hq) hCs⟩
    rcases List.mem_cons.mp hq with rfl | hq
    · exact ⟨hoC, neL _ hCs, fresh0 _ hCs⟩
    · rcases List.mem_cons.mp hq with rfl | hq
      · exact ⟨hoK, neL _ hKs, fresh0 _ hKs⟩
      · exact ⟨k3 _ _ (N q hq).1, (N q hq).2⟩
  have fin : ∀ (tk0 : Nat), codeAny (model prog w) A (.compLoop (.ListComp elt [⟨.Name x px, iter, ifs, 0⟩] scope pos) 0 (.ref s₁.heap.objs.size) (.ref H1.objs.size) (compEnvC scope ((x, H2.objs.size + 1) :: cl) H2.objs.size env))
      (compPost (model prog w) A E (some (assign (.Name z pz) env)) (fun _ s' => Q .next s') (.ref H1.objs.size) H2.objs.size) { s₁ with heap := H3, toks := tk0 } := by
    intro tk0
    refine cell_loop (s := { s₁ with heap := H3, toks := tk0 }) (cenv := compEnvC scope ((x, H2.objs.size + 1) :: cl) H2.objs.size env) (C := H2.objs.size) (K := H2.objs.size + 1) W p FF (by simp [compEnvC, relabel, hkind]) (hx _) (by simp [compEnvC]) (Nat.ne_of_lt a1) hDf hCf hKf (Nat.ne_of_lt (Nat.lt_succ_of_lt a1)) (Nat.ne_of_lt (Nat.lt_succ_self _)) hst3 hacc hn3 hKobj hsz ?_ ?_ ?_
    · intro i v s₃ oK E' hPv hn hoK hdK hk
      obtain ⟨oC, h1, h2, h3, h4⟩ := turnFacts s₃ oK hn hoK hk
      exact ht i v H2.objs.size oC oK _ s₃ E' hPv h1 hdK h2 h3 h4
    · intro i v s₃ oK E' hPv hpv hn hoK hdK hk
      obtain ⟨oC, h1, h2, h3, h4⟩ := turnFacts s₃ oK hn hoK hk
      exact he i v H2.objs.size oC oK _ s₃ E' hPv hpv h1 hdK h2 h3 h4
    · intro h' tk vs ws hn hpl hlen hP hF hk
      have k0 : ∀ b o, s₁.heap.get? b = some o → h'.get? b = some o := fun b o e => by
        have hb := Heap.lt_size e
        exact hk b o (Nat.ne_of_lt (Nat.lt_of_lt_of_le hb hKs)) (Nat.ne_of_lt hb) (Nat.ne_of_lt (Nat.lt_of_lt_of_le hb hDs)) (k1 b o e)
      refine post_use hz hp hL (F.keeps k0) (fun q hq => ⟨k0 _ _ (N q hq).1, (N q hq).2⟩) hn (neL _ hCs) (neL _ hDs) (Nat.ne_of_lt a1) hpl (fresh0 _ hCs) (fun q hq => Nat.ne_of_lt (Nat.lt_of_lt_of_le (ltN q hq) hCs)) fun h'' tk'' F2 N2 hpl2 k2 => ?_
      refine hd H1.objs.size h'' tk'' ws ⟨vs, hlen, hP, hF⟩ F2 N2 hpl2 (fresh1 _ hDs) fun b o hb e => k2 b o hb (fun q => ?_) (k0 b o e)
      rw [q, fresh1 _ hCs] at e; cases e
  exact codeAny_compStart_list (fin _) (W.self 0 _ _ _ hst3 (fin _))
/-- two clauses, stored under a name -/
def Use2At (prog : Program) (w : World) (A : Around) (env : Env) (cenvOf : Addr → Env) (x y : Str) (i2 : Expr) (ifs2 : List Expr) (elt : Expr) (z : Str) (Q : Flow → Shared → Prop) (xv : Value) (s₁ : Shared) : Prop :=
  ∃ (n : Nat) (P : Nat → Value → Prop) (h₀ : Heap) (L : Addr) (m : Str → Option Value) (news : List (Addr × Obj)) (FF : Value → List Value → Prop),
    Src prog w A xv s₁ n P ∧ n ≤ 1000 ∧ env.locals = L ∧ Fr h₀ L s₁.heap m ∧ News h₀ L s₁.heap news ∧
    (∀ (i : Nat) (v : Value) (C : Addr) (oC : Obj) (m₂ : Str → Option Value) (s₃ : Shared) (E' : Value → Shared → Prop), P i v → LCg.NsObj oC m₂ → m₂ x = some v → Fr h₀ L s₃.heap m → News h₀ L s₃.heap ((C, oC) :: news) → (∀ q ∈ news, q.1 < C) →
      wpAny (model prog w) A (eval i2 (cenvOf C)) (InnerAt prog w A cenvOf x y ifs2 elt h₀ L m news FF v C s₃) E' s₃) ∧
    UseEnd Q z h₀ L m news s₁ (fun ys => ∃ (vs : List Value) (wss : List (List Value)), vs.length = n ∧ (∀ (j : Nat) (v : Value), vs[j]? = some v → P j v) ∧ Paired FF vs wss ∧ ys = wss.flatten)
theorem comp2_use {elt i1 i2 : Expr} {x y z : Str} {px py pz : Pos} {ifs2 : List Expr} {scope : Scope} {cl : List (Str × Addr)} {pos spos : Pos} {Q : Flow → Shared → Prop}
    (hsw : swapsWith (.ListComp elt [⟨.Name x px, i1, [], 0⟩, ⟨.Name y py, i2, ifs2, 0⟩] scope pos) (some (.Name z pz)) spos.line env = pure true)
    (hz : env.kindOf z = some .local) (hp : (env.scope.kind == .class || (env.scope.kind == .module && env.locals != env.globals)) = false)
    (hclos : closureFor scope env = pure cl) (hcell : ∀ z ∈ scope.names, z.2 ≠ .cell) (hkind : scope.kind = .function)
    (hnames : ∀ z ∈ scope.names, z.2 = .local → scope.names.lookup z.1 = some .local) (hx : scope.names.lookup x = some .local) (hy : scope.names.lookup y = some .local) (hxy : x ≠ y)
    (h : wpAny (model prog w) A (eval i1 env) (Use2At prog w A env (fun C => compEnvC scope cl C env) x y i2 ifs2 elt z Q) E s)
    (hs : ∀ z, foldedSetIterable i1 env z = pure z := by intro _; rfl) (hs2 : ∀ C z, foldedSetIterable i2 (compEnvC scope cl C env) z = pure z := by intro _ _; rfl) :
    wpAny (model prog w) A (exec (.Assign [.Name z pz] (.ListComp elt [⟨.Name x px, i1, [], 0⟩, ⟨.Name y py, i2, ifs2, 0⟩] scope pos) spos) env) Q E s := by
  rw [exec_Assign_Name_used _ _ _ _ hsw]
  refine wpAny_bind (wpAny_standAt (wpAny_bind ?_))
  show wpAny _ A (do let _ ← comprehension (.ListComp elt [⟨.Name x px, i1, [], 0⟩, ⟨.Name y py, i2, ifs2, 0⟩] scope pos) scope env _ (newList []) false (eval i1 env) (some (assign (.Name z pz) env))) _ _ s
  refine wpAny_bind (wpAny_mono (wpAny_comprehension_free (use := some (assign (.Name z pz) env)) (Q := fun _ s' => Q .next s') rfl hs hclos hkind hnames
    (wpAny_mono h (fun xv s₁ h₁ => ?_) fun _ _ e => e)) (fun _ s' hq => wpAny_pure (wpAny_pure hq)) fun _ _ e => e)
  obtain ⟨n, P, h₀, L, m, news, FF, ⟨fp, St, oI, hiter, W, hst, hfp⟩, hsz, hL, F, N, hin, hd⟩ := h₁
  refine hiter _ _ ?_
  generalize hH : s₁.heap.push oI = H1 at hst ⊢
  have old1 : ∀ b o, s₁.heap.get? b = some o → H1.get? b = some o := fun b o e => hH ▸ Heap.get?_push_of_some _ e
  have hsz1 : H1.objs.size = s₁.heap.objs.size + 1 := by rw [← hH, Heap.size_push]
  refine wpAny_newObj_type (wpAny_newFunctionEnv hcell (by intro z hz; simp at hz) (fun h₁ hns₁ hsb₁ => ?_) hkind)
  dsimp only at hns₁ hsb₁ ⊢
  generalize hH2 : H1.push { cls := .type "list", dict := none, data := .seq ([] : List Value).toArray } = H2 at hns₁ hsb₁ ⊢
  have hC : H2.objs.size = H1.objs.size + 1 := by rw [← hH2, Heap.size_push]
  have hDC : H1.objs.size ≠ H2.objs.size := by rw [hC]; exact Nat.ne_of_lt (Nat.lt_succ_self _)
  have below : ∀ b, b < H1.objs.size → b ≠ H2.objs.size ∧ b ≠ H1.objs.size := fun b hb => ⟨by rw [hC]; exact Nat.ne_of_lt (Nat.lt_succ_of_lt hb), Nat.ne_of_lt hb⟩
  have hfp' : ∀ b ∈ fp, b < H1.objs.size := fun b hb => by rw [hsz1]; exact hfp b hb
  have hDf : H1.objs.size ∉ fp := fun hm => Nat.lt_irrefl _ (hfp' _ hm)
  have hCf : H2.objs.size ∉ fp := fun hm => by have := hfp' _ hm; rw [hC] at this; exact Nat.lt_irrefl _ (Nat.lt_of_succ_lt this)
  have old : ∀ b o, H1.get? b = some o → h₁.get? b = some o := fun b o e => hsb₁.extBut b o (below b (Heap.lt_size e)).1 (Heap.get?_push_of_some _ (hH2 ▸ Heap.get?_push_of_some _ e))
  have hacc : h₁.PlainList H1.objs.size #[] := ⟨_, hsb₁.extBut _ _ hDC (Heap.get?_push_of_some _ (hH2 ▸ Heap.get?_push_size _ rfl))⟩
  have hst₁ : St 0 h₁ := W.frame _ _ _ hst fun b _ o e => old b o e
  have fresh1 : ∀ a, s₁.heap.objs.size ≤ a → s₁.heap.get? a = none := fun a ha => Heap.get?_none_of_le ha
  have fresh0 : ∀ a, s₁.heap.objs.size ≤ a → h₀.get? a = none := fun a ha => by
    cases e : h₀.get? a with
    | none => rfl
    | some o' => have := F.keep a o' e; rw [fresh1 a ha] at this; cases this
  have neL : ∀ a, s₁.heap.objs.size ≤ a → a ≠ L := fun a ha e => by
    have := F.ns.lt
    rw [← e] at this
    exact absurd (Nat.lt_of_lt_of_le this ha) (Nat.lt_irrefl _)
  have ltN : ∀ q ∈ news, q.1 < s₁.heap.objs.size := fun q hq => Heap.lt_size (N q hq).1
  have hIs : s₁.heap.objs.size ≤ s₁.heap.objs.size := Nat.le_refl _
  have hDs : s₁.heap.objs.size ≤ H1.objs.size := by rw [hsz1]; exact Nat.le_succ _
  have hCs : s₁.heap.objs.size ≤ H2.objs.size := by rw [hC, hsz1]; exact Nat.le_succ_of_le (Nat.le_succ _)
  have k1 : ∀ b o, s₁.heap.get? b = some o → h₁.get? b = some o := fun b o e => old b o (old1 b o e)
  have fin : ∀ (tk0 : Nat), codeAny (model prog w) A (.compLoop (E2 elt x px i1 y py i2 ifs2 scope pos) 0 (.ref s₁.heap.objs.size) (.ref H1.objs.size) (compEnvC scope cl H2.objs.size env))
      (compPost (model prog w) A E (some (assign (.Name z pz) env)) (fun _ s' => Q .next s') (.ref H1.objs.size) H2.objs.size) { s₁ with heap := h₁, toks := tk0 } := by
    intro tk0
    refine outer_loop (s := { s₁ with heap := h₁, toks := tk0 }) (cenvOf := fun C => compEnvC scope cl C env) (C := H2.objs.size) W rfl (lookup_relabel_local hx) (lookup_relabel_local hy) hxy (by simp [compEnvC, relabel, hkind]) (hs2 _) hDC hDf hCf hst₁ hacc hns₁ hsz
      (F.keeps k1) (fun q hq => ⟨k1 _ _ (N q hq).1, (N q hq).2⟩) (fresh0 _ hCs) (neL _ hCs) (fun q hq => Nat.lt_of_lt_of_le (ltN q hq) hCs) (fresh0 _ hDs) (neL _ hDs) (fun q hq => Nat.ne_of_lt (Nat.lt_of_lt_of_le (ltN q hq) hDs)) (fresh0 _ hIs) (neL _ hIs) (fun q hq => Nat.ne_of_lt (ltN q hq)) hin ?_
    intro h' tk m' vs wss hn' hpl hlen hP hF hk
    have k0 : ∀ b o, s₁.heap.get? b = some o → h'.get? b = some o := fun b o e => by
      have hb := Heap.lt_size e
      exact hk b o (Nat.ne_of_lt (Nat.lt_of_lt_of_le hb hCs)) (Nat.ne_of_lt hb) (Nat.ne_of_lt (Nat.lt_of_lt_of_le hb hDs)) (k1 b o e)
    refine post_use hz hp hL (F.keeps k0) (fun q hq => ⟨k0 _ _ (N q hq).1, (N q hq).2⟩) hn' (neL _ hCs) (neL _ hDs) hDC hpl (fresh0 _ hCs) (fun q hq => Nat.ne_of_lt (Nat.lt_of_lt_of_le (ltN q hq) hCs)) fun h'' tk'' F2 N2 hpl2 k2 => ?_
    refine hd H1.objs.size h'' tk'' wss.flatten ⟨vs, wss, hlen, hP, hF, rfl⟩ F2 N2 hpl2 (fresh1 _ hDs) fun b o hb e => k2 b o hb (fun q => ?_) (k0 b o e)
    rw [q, fresh1 _ hCs] at e; cases e
  exact start_outer (cenv := compEnvC scope cl H2.objs.size env) (fin _) (W.self 0 _ _ _ hst₁ (fin _))
end
end Mine
end
section
open PySem PySem.W PyProof.Rows
set_option maxRecDepth 100000
set_option maxHeartbeats 2000000
namespace Mine
local macro_rules | `(tactic| k_room) => `(tactic| ktr_room)
theorem slice_up1 (vs : List Value) : (slicePick vs.toArray none (some 1) none).toList = vs.take 1 := by
  have := slicePick_upto' vs.toArray 1
  rw [show ((1 : Nat) : Int) = 1 from rfl] at this
  rw [this]
theorem slice_from1 (vs : List Value) : (slicePick vs.toArray (some 1) none none).toList = vs.drop 1 := by
  have := slicePick_from' vs.toArray 1
  rw [show ((1 : Nat) : Int) = 1 from rfl] at this
  rw [this]
local macro_rules | `(tactic| walk_at "subscriptTail Name Slice ref ref") => `(tactic| (k_here; (with_reducible show wpAny _ _ (subscriptTail _ (PySem.Expr.Slice none (some _) none _) (Value.ref _) (Value.ref _)) _ _ _); k_dflt (refine' kmk_slice_lit ?F ?N ?l ?p ?q ?e ?_ ?s ?t ?z; (case F => k_asm); (case N => k_asm); (case l => is_list); (case p => kmk_part); (case q => kmk_part); (case e => exact slice_up1 _); (case s => with_unfolding_all rfl); (case t => kmk_pure); (case z => (rw [List.size_toArray, sizeLine_eq]; omega))); intro D' h' F' N' l1; (try k_lt l1); (try k_sweep)))
local macro_rules | `(tactic| walk_at "subscriptTail Name Slice ref ref") => `(tactic| (k_here; (with_reducible show wpAny _ _ (subscriptTail _ (PySem.Expr.Slice (some _) none none _) (Value.ref _) (Value.ref _)) _ _ _); k_dflt (refine' kmk_slice_lit ?F ?N ?l ?p ?q ?e ?_ ?s ?t ?z; (case F => k_asm); (case N => k_asm); (case l => is_list); (case p => kmk_part); (case q => kmk_part); (case e => exact slice_from1 _); (case s => with_unfolding_all rfl); (case t => kmk_pure); (case z => (rw [List.size_toArray, sizeLine_eq]; omega))); intro D' h' F' N' l1; (try k_lt l1); (try k_sweep)))
local macro_rules | `(tactic| walk_at "binaryOp Add ref ref") => `(tactic| (k_here; (with_reducible show wpAny _ _ (binaryOp _ (Value.ref _) (Value.ref _)) _ _ _); k_dflt (refine' kmk_add_lit ?F ?N ?a ?b ?e ?_ ?z; (case F => k_asm); (case N => k_asm); (case a => is_list); (case b => is_list); (case e => exact rfl); (case z => (simp only [List.length_append, List.length_take, List.length_drop, List.length_cons, List.length_nil, sizeLine_eq]; omega))); intro D' h' F' N' l1; (try k_lt l1); (try k_sweep)))
local macro_rules | `(tactic| walk_at "call builtin:list.extend") => `(tactic| (k_here; (with_reducible show wpAny _ _ (call (Value.builtin _) [Value.ref _, Value.ref _]) _ _ _); k_dflt (refine' kl_extend ?F ?N ?b ?e ?ne ?U ?d ?z ?y ?_; (case F => k_asm); (case N => k_asm); (case b => k_mem); (case U => k_upd); (case e => exact rfl); (case ne => (simp; done)); (case d => (simp; done)); (case z => (simp; done)); (case y => (simp [sizeLine_eq]; omega))); kl_rest))
theorem star_strs {vs : List Value} {xs : List Str} {t : Tok} (hs : Strs vs xs) : Strs (vs.take 1 ++ [Value.str (Str.ofString "*") t] ++ vs.drop 1) (xs.take 1 ++ Str.ofString "*" :: xs.drop 1) := by
  have h9 := ((StrsAre.take' hs 1).append' (.cons (Str.ofString "*") t .nil)).append' (StrsAre.drop' hs 1)
  have e : xs.take 1 ++ [Str.ofString "*"] ++ xs.drop 1 = xs.take 1 ++ Str.ofString "*" :: xs.drop 1 := by rw [List.append_assoc, List.singleton_append]
  rw [e] at h9
  exact h9
/-- the agents that a record makes of its words -/
def agOf (x : Str) : Str := if x.length % 2 = 1 then Txt.upper x else x
def agents (xs : List Str) : List Str := (xs.map agOf).take 1 ++ Str.ofString "*" :: (xs.map agOf).drop 1
def MapEl (f : Str → Str) (v y : Value) : Prop := ∃ (x : Str) (t t' : Tok), v = .str x t ∧ y = .str (f x) t'
theorem map_of {f : Str → Str} : ∀ {vs ys : List Value} {xs : List Str}, Strs vs xs → Paired (MapEl f) vs ys → Strs ys (xs.map f)
  | _, _, _, .nil, .nil => .nil
  | _, _, _, .cons x t h, .cons ⟨x', t1, t2, e, e2⟩ hp => by
    cases e; subst e2
    exact .cons _ t2 (map_of h hp)
theorem news_add {h₀ h h' : Heap} {L D : Addr} {m : Str → Option Value} {news : List (Addr × Obj)} {o : Obj} (F : Fr h₀ L h m) (N : News h₀ L h' news) (ho : h'.get? D = some o) (hn : h.get? D = none) : News h₀ L h' ((D, o) :: news) := fun p hp => by
  rcases List.mem_cons.mp hp with rfl | hp
  · refine ⟨ho, ?_, ?_⟩
    · rintro rfl
      obtain ⟨oL, _, _, hoL, _⟩ := F.ns
      rw [hn] at hoL; cases hoL
    · cases q : h₀.get? D with
      | none => rfl
      | some o => have := F.keep _ _ q; rw [hn] at this; cases this
  · exact N p hp
theorem fresh_ne {h₀ h : Heap} {L D : Addr} {news : List (Addr × Obj)} (N : News h₀ L h news) (hn : h.get? D = none) {a : Addr} {o : Obj} (hp : (a, o) ∈ news) : D ≠ a := by
  rintro rfl
  have := (N _ hp).1
  rw [hn] at this; cases this
theorem el_up {x : Str} {t t' : Tok} (h : (x.length : Int).fmod 2 ≠ 0) : MapEl agOf (.str x t) (.str (Txt.upper x) t') := by
  refine ⟨x, t, t', rfl, ?_⟩
  have : x.length % 2 = 1 := by
    rw [show ((x.length : Int).fmod 2) = ((x.length % 2 : Nat) : Int) from by rw [Int.fmod_eq_emod_of_nonneg _ (by decide)]; rfl] at h
    omega
  unfold agOf; rw [if_pos this]
theorem el_no {x : Str} {t t' : Tok} (h : (x.length : Int).fmod 2 = 0) : MapEl agOf (.str x t) (.str x t') := by
  refine ⟨x, t, t', rfl, ?_⟩
  have : ¬ x.length % 2 = 1 := by
    rw [show ((x.length : Int).fmod 2) = ((x.length % 2 : Nat) : Int) from by rw [Int.fmod_eq_emod_of_nonneg _ (by decide)]; rfl] at h
    omega
  unfold agOf; rw [if_neg this]
local macro_rules | `(tactic| walk_at "exec Assign cons ListComp") => `(tactic| (k_here; refine hold_ ?_))
theorem record_c {w : World} {loose : List Str} {mean : ExcName → Option Value} {mg mb : Str → Option Value}
  {dp un : Nat} {gd : Option (List Code)} {cn : Str} {cs : Scope} {a : Addr} {ccd : Value} {cl : List (Str × Addr)} {outer : List Env} {A₀ : Around} {base h₀ : Heap} {L : Addr} {m : Str → Option Value} {s : Shared} {Q E : Value → Shared → Prop}
  {al : Addr} {vs : List Value} {xs : List Str}
  (B : Below A₀ base outer h₀) (F : Fr h₀ L s.heap m) (X : (hd.heap_39 w.params).In h₀) (T : Top hd.view_39 loose mean mg mb h₀) (hk : cs.kind = .function) (hdp : dp + 16 < recursionLimit) (hun : un + 128 < cLine)
  (hl : s.heap.IsList al vs.toArray) (hs : Strs vs xs) (hxs : ∀ x ∈ xs, x.length ≤ 1000) (hsz : vs.length ≤ 1000)
  (hret : ∀ (one d l : Addr) (es : List DictEntry) (n c : Nat) (avs : List Value) (h' : Heap) (tk' : Nat), Strs avs (agents xs) → getL "useragents" es = some (some (.ref l)) → getL "applies_to" es = some none →
    s.heap.StaysIn h' → h'.get? one = some (instObj 59 d) → h'.get? d = some (dictOf es n) → h'.get? l = some (lstObj avs.toArray c) → s.heap.get? one = none → s.heap.get? d = none → s.heap.get? l = none → Q (.ref one) { s with heap := h', toks := tk' }) :
  wpAny (model Challenge.rw_ij0195_01.row.prog w) (ktrTop dp un gd cn cs L a ccd cl outer) (call (.ref 112) [.ref al]) Q E s := by
  w_strict (
    (revert X; k_fill; intro X)
    refine wpAny_call ?_
    refine' callP ?k1 ?k2 ?k3 ?k5 ?kA ?kF ?kK ?k6 ?k7 ?k8 ?k9 ?kB ?_ ?c2 ?c3 ?c4 ?c5
    (case kA => exact rfl); (case kF => exact rfl); (case kK => assumption); (case k1 => k_asm); (case k2 => k_asm); (case k3 => k_asm); (case k5 => k_asm); (case k6 => k_is); (case k7 => k_is); (case k8 => ktr_room); (case k9 => exact BindsTo.of_eq rfl); (case c5 => decide); (case kB => exact locs rfl); (case c2 => exact rfl); (case c3 => exact rfl); (case c4 => exact rfl)
    k_whole
    intro L' h' F' N' B' X' T'
    (try dsimp only)
    (try k_lift B')
    (try k_fold)
    k_steps
    refine of_hold ?_
    refine comp_use (by with_unfolding_all rfl) (by with_unfolding_all rfl) (by decide) (by rfl) (by decide) (by rfl) (by rfl) (by rfl) ?_
    k_steps
    with_reducible rename News _ _ _ _ => N1
    with_reducible rename Fr _ _ _ _ => F1
    refine ⟨_, _, _, _, _, _, fun _ => true, MapEl agOf, src_list (vs := vs) rfl (by is_list), by rw [sizeLine_eq]; omega, rfl, (by k_asm), (by k_asm), ⟨?ht, ?he⟩, ?hd⟩
    (case ht => exact fun i v C oC m₂ s₃ E' hv hC hm F3 N3 hlt => wpAny_tests_nil ⟨rfl, _, _, rfl, fun b o e => e⟩)
    (case he =>
      intro i v C oC m₂ s₃ E' hv hp hC hm F3 N3 hlt
      obtain ⟨x, t, hx, e⟩ := strs_get hs hv
      subst e
      have hbx := hxs _ (List.mem_of_getElem? hx)
      k_steps
      all_goals first | exact ⟨_, _, rfl, fun b o e => e⟩ | exact el_up (by assumption) | exact el_no (by assumption))
    (case hd =>
      intro D h2 tk2 ys hys F2 N2 hD hDn hst
      obtain ⟨vs', hlen, hitems, hP⟩ := hys
      obtain rfl := items_eq hlen hitems
      rw [List.filter_eq_self.mpr (fun _ _ => rfl)] at hP
      have hags := map_of hs hP
      have hal := strs_length hags
      rw [List.length_map, ← strs_length hs] at hal
      obtain ⟨c, hDo⟩ := hD
      have N3 := news_add F1 N2 hDo hDn
      have q1 := fresh_ne N1 hDn (.head _)
      have q2 := fresh_ne N1 hDn (.tail _ (.head _))
      have q3 := fresh_ne N1 hDn (.tail _ (.tail _ (.head _)))
      have q4 := fresh_ne N1 hDn (.tail _ (.tail _ (.tail _ (.head _))))
      clear N1 N2 F1 hDo hDn hst hP hitems hlen
      (try dsimp only)
      k_steps
      (try simp only [List.cons_append, List.nil_append])
      k_steps
      (with_reducible rename News _ _ _ _ => N9)
      (with_reducible rename Fr _ _ _ _ => F9)
      refine' hret _ ?d ?l ?es ?n ?c ?avs _ _ ?q1 ?q2 ?q3 F9.keep (N9.get ?q4) (N9.get ?q5) (N9.get ?q6) (N9.fresh ?q7) (N9.fresh ?q8) (N9.fresh ?q9)
      (case q4 => k_mem)
      (case q5 => k_mem)
      (case q2 => k_get)
      (case q3 => k_get)
      (case q6 => (repeat' (first | exact List.Mem.head _ | refine List.Mem.tail _ ?_)))
      (case q7 => k_mem)
      (case q8 => k_mem)
      (case q9 => k_mem)
      (case q1 => exact star_strs hags)))
end Mine
end
section
open PySem PySem.W PyProof.Rows
set_option maxRecDepth 100000
set_option maxHeartbeats 0
namespace Mine
/-- a text by its signs' numbers -/
def tx (l : List Nat) : Str := ⟨l.toArray⟩
def c2 (b : Bool) : Nat := if b then 98 else 97
def c4 (q : Bool × Bool) : Nat := if q.2 then (if q.1 then 66 else 65) else (if q.1 then 98 else 97)
def wt (bs : List Bool) : Str := tx (bs.map c2)
def st (qs : List (Bool × Bool)) : Str := tx (qs.map c4)
theorem tx_append (a b : List Nat) : tx a ++ tx b = tx (a ++ b) := PySem.Str.ext' (by rw [PySem.Str.cps_append]; simp [tx])
theorem tx_length (a : List Nat) : (tx a).length = a.length := by simp [tx, Str.length]
theorem tx_inj {a b : List Nat} (h : tx a = tx b) : a = b := by
  have := congrArg (fun x : Str => x.cps.toList) h
  simpa [tx] using this
theorem tx_of (x : Str) : tx x.cps.toList = x := PySem.Str.ext' (by simp [tx])
def lowC (c : Nat) : Nat := if 65 ≤ c && c ≤ 90 then c + 32 else c
def upC (c : Nat) : Nat := if 97 ≤ c && c ≤ 122 then c - 32 else c
theorem low_all : (List.range 128).all (fun c => Unicode.lowerOf c == [lowC c] && !(c == 0x3A3) && (Unicode.upperOf c == [upC c])) = true := by decide +kernel
theorem low_one {c : Nat} (h : c < 128) : Unicode.lowerOf c = [lowC c] ∧ (c == 0x3A3) = false ∧ Unicode.upperOf c = [upC c] := by
  have := List.all_eq_true.mp low_all c (List.mem_range.mpr h)
  simp only [Bool.and_eq_true, Bool.not_eq_true', beq_iff_eq] at this
  exact ⟨this.1.1, this.1.2, this.2⟩
theorem flatten_ones {g : Nat → Nat} : ∀ l : List Nat, (l.map fun c => [g c]).flatten = l.map g
  | [] => rfl
  | c :: l => by rw [List.map_cons, List.flatten_cons, flatten_ones l]; rfl
theorem placed_one {l : List Nat} {f : Nat → Nat → List Nat} {g : Nat → Nat} (h : ∀ i c, l[i]? = some c → f i c = [g c]) : placed (tx l) f = (l.map g).toArray := by
  unfold placed
  have e : ((tx l).cps.mapIdx fun i c => (f i c).toArray) = (l.map fun c => #[g c]).toArray := by
    apply Array.ext'
    rw [Array.toList_mapIdx]
    show List.mapIdx _ l = _
    apply List.ext_getElem?
    intro i
    show _ = (l.map fun c => #[g c])[i]?
    rw [List.getElem?_mapIdx, List.getElem?_map]
    rcases hi : l[i]? with _ | c
    · rfl
    · simp only [Option.map_some]; rw [h i c hi]
  rw [e]
  apply Array.ext'
  rw [Array.toList_flatten]
  show (List.map Array.toList (l.map fun c => #[g c])).flatten = l.map g
  rw [List.map_map]
  exact flatten_ones l
theorem lower_tx {l : List Nat} (h : ∀ c ∈ l, c < 128) : Txt.lower (tx l) = tx (l.map lowC) := by
  unfold Txt.lower
  refine PySem.Str.ext' (placed_one fun i c hc => ?_)
  obtain ⟨h1, h2, _⟩ := low_one (h c (List.mem_of_getElem? hc))
  show Unicode.lowerAt l.toArray i = _
  unfold Unicode.lowerAt
  rw [show l.toArray[i]? = some c from by simpa using hc]
  simp only [h2, Bool.false_and, Bool.false_eq_true, if_false]
  exact h1
theorem upper_tx {l : List Nat} (h : ∀ c ∈ l, c < 128) : Txt.upper (tx l) = tx (l.map upC) := by
  unfold Txt.upper
  refine PySem.Str.ext' (placed_one fun i c hc => ?_)
  exact (low_one (h c (List.mem_of_getElem? hc))).2.2
theorem c2_128 {bs : List Bool} : ∀ c ∈ bs.map c2, c < 128 := fun c h => by
  obtain ⟨b, _, rfl⟩ := List.mem_map.mp h; cases b <;> decide
theorem c4_128 {qs : List (Bool × Bool)} : ∀ c ∈ qs.map c4, c < 128 := fun c h => by
  obtain ⟨⟨b, u⟩, _, rfl⟩ := List.mem_map.mp h; cases b <;> cases u <;> decide
def star : Str := tx [42]
theorem star_ : Str.ofString "*" = star := by decide +kernel
theorem low_c4 (q : Bool × Bool) : lowC (c4 q) = c2 q.1 := by obtain ⟨b, u⟩ := q; cases b <;> cases u <;> decide
theorem low_up_c2 (b : Bool) : lowC (upC (c2 b)) = c2 b := by cases b <;> decide
theorem low_c2 (b : Bool) : lowC (c2 b) = c2 b := by cases b <;> decide
theorem lower_st (qs : List (Bool × Bool)) : Txt.lower (st qs) = wt (qs.map (·.1)) := by
  unfold st wt
  rw [lower_tx c4_128, List.map_map, List.map_map]
  exact congrArg tx (List.map_congr_left fun q _ => low_c4 q)
theorem lower_st_star (qs : List (Bool × Bool)) : Txt.lower (st qs ++ star) = wt (qs.map (·.1)) ++ star := by
  unfold st wt star
  rw [tx_append, tx_append, lower_tx (fun c h => by
    rcases List.mem_append.mp h with h | h
    · exact c4_128 c h
    · rw [List.mem_singleton.mp h]; decide), List.map_append, List.map_map, List.map_map]
  exact congrArg tx (congrArg (· ++ _) (List.map_congr_left fun q _ => low_c4 q))
def small (bs : List Bool) : List (Bool × Bool) := bs.map fun b => (b, false)
theorem st_small (bs : List Bool) : st (small bs) = wt bs := by
  unfold st wt small
  rw [List.map_map]; rfl
theorem small_fst (bs : List Bool) : (small bs).map (·.1) = bs := by
  unfold small
  rw [List.map_map]
  show bs.map id = bs
  simp
theorem lower_ag (bs : List Bool) : Txt.lower (agOf (wt bs)) = wt bs := by
  unfold agOf
  split
  · unfold wt
    rw [upper_tx c2_128, lower_tx (fun c h => by
      obtain ⟨d, hd, rfl⟩ := List.mem_map.mp h
      obtain ⟨b, _, rfl⟩ := List.mem_map.mp hd
      cases b <;> decide), List.map_map, List.map_map]
    exact congrArg tx (List.map_congr_left fun b _ => low_up_c2 b)
  · have := lower_st (small bs)
    rwa [st_small, small_fst] at this
theorem ag_star (bs : List Bool) : (agOf (wt bs) == Str.ofString "*") = false := by
  rw [star_]
  refine Bool.eq_false_iff.mpr fun h => ?_
  have h := eq_of_beq h
  have e := lower_ag bs
  rw [h] at e
  have e2 : Txt.lower star = star := by decide +kernel
  rw [e2] at e
  have := tx_inj e
  rcases bs with _ | ⟨b, _ | ⟨b', r⟩⟩
  · simp at this
  · cases b <;> simp [c2] at this
  · simp at this
/-- infix -/
def isIn (s : List Bool) : List Bool → Bool
  | [] => s.isEmpty
  | a :: l => s.isPrefixOf (a :: l) || isIn s l
theorem isIn_iff {s : List Bool} : ∀ {l : List Bool}, isIn s l = true ↔ s <:+: l
  | [] => by unfold isIn; rw [List.isEmpty_iff, List.infix_nil]
  | a :: l => by
    unfold isIn
    rw [Bool.or_eq_true, isIn_iff, List.isPrefixOf_iff_prefix, List.infix_cons_iff]
theorem infix_iff {a b : List Nat} : a <:+: b ↔ ∃ i, i + a.length ≤ b.length ∧ (b.drop i).take a.length = a := by
  constructor
  · rintro ⟨p, q, rfl⟩
    refine ⟨p.length, by simp only [List.length_append]; omega, ?_⟩
    rw [List.append_assoc, List.drop_left, List.take_left]
  · rintro ⟨i, _, h⟩
    rw [← h]
    exact (List.take_prefix _ _).isInfix.trans (List.drop_suffix _ _).isInfix
theorem hasIn_iff (x y : List Nat) : hasIn (tx x) (tx y) = true ↔ y <:+: x := by
  unfold hasIn
  rw [StrLaws.found_iff, infix_iff]
  refine exists_congr fun i => ?_
  rw [tx_length, tx_length, StrLaws.subAt_eq, beq_iff_eq, tx_length]
  rfl
theorem map_infix {f : Bool → Nat} (hf : ∀ a b, f a = f b → a = b) {a b : List Bool} : a.map f <:+: b.map f ↔ a <:+: b := by
  constructor
  · rintro ⟨p, q, h⟩
    obtain ⟨l1, l2, e, h1, h2⟩ := List.map_eq_append_iff.mp h.symm
    obtain ⟨l3, l4, e2, h3, h4⟩ := List.map_eq_append_iff.mp h1
    have : l4 = a := by
      have hinj : ∀ (x y : List Bool), x.map f = y.map f → x = y := fun x y hxy => by
        induction x generalizing y with
        | nil => cases y with
          | nil => rfl
          | cons _ _ => simp at hxy
        | cons c x ih => cases y with
          | nil => simp at hxy
          | cons d y =>
            simp only [List.map_cons, List.cons.injEq] at hxy
            rw [hf c d hxy.1, ih y hxy.2]
      exact hinj _ _ h4
    subst this
    exact ⟨l3, l2, by rw [e, e2]⟩
  · rintro ⟨p, q, rfl⟩
    exact ⟨p.map f, q.map f, by simp⟩
theorem c2_inj : ∀ a b, c2 a = c2 b → a = b := by decide
theorem wt_inj {a b : List Bool} (h : wt a = wt b) : a = b := by
  have h := tx_inj h
  have h1 : a.map c2 <:+: b.map c2 := h ▸ List.infix_refl _
  have h2 := (map_infix c2_inj).mp h1
  have hl := congrArg List.length h
  simp only [List.length_map] at hl
  exact h2.eq_of_length hl
theorem bool_iff {a b : Bool} (h : a = true ↔ b = true) : a = b := by cases a <;> cases b <;> simp_all
theorem hasIn_wt (bs a : List Bool) : hasIn (wt bs) (wt a) = isIn a bs :=
  bool_iff (by unfold wt; rw [hasIn_iff, map_infix c2_inj, isIn_iff])
theorem infix_snoc {s l : List Nat} {c : Nat} (hc : c ∉ s) (h : s <:+: l ++ [c]) : s <:+: l := by
  obtain ⟨p, q, e⟩ := h
  rcases List.eq_nil_or_concat q with rfl | ⟨q', z, rfl⟩
  · rw [List.append_nil] at e
    rcases List.eq_nil_or_concat s with rfl | ⟨s', z, rfl⟩
    · exact ⟨[], l, by simp⟩
    · have e2 : (p ++ s') ++ [z] = l ++ [c] := by simpa using e
      have := (List.append_inj' e2 rfl).2
      have hz : z = c := by simpa using this
      exact absurd (show c ∈ s'.concat z by simp [hz]) hc
  · have e2 : (p ++ s ++ q') ++ [z] = l ++ [c] := by simpa using e
    exact ⟨p, q', (List.append_inj' e2 rfl).1⟩
theorem hasIn_star (bs a : List Bool) : hasIn (wt bs ++ star) (wt a) = isIn a bs := by
  refine bool_iff ?_
  unfold wt star
  rw [tx_append, hasIn_iff, isIn_iff, ← map_infix c2_inj (a := a) (b := bs)]
  constructor
  · refine infix_snoc fun h => ?_
    obtain ⟨b, _, hb⟩ := List.mem_map.mp h
    cases b <;> simp [c2] at hb
  · exact fun h => h.trans (List.prefix_append _ _).isInfix
theorem tw_all {p : Nat → Bool} {l : List Nat} (h : ∀ c ∈ l, p c = true) : l.takeWhile p = l := by
  have := List.takeWhile_append_of_pos (l₂ := []) h
  simpa using this
/-- the part ahead of the first slash -/
theorem head_take (u : Str) : headPart u = tx (u.cps.toList.takeWhile (· != 47)) := by
  have hj := StrLaws.join_split u (Str.ofString "/")
  have e47 : Str.ofString "/" = ⟨#[47]⟩ := by decide +kernel
  have hf := StrLaws.split_free u 47
  unfold headPart
  rw [← e47] at hf
  rcases hs : Txt.split u (Str.ofString "/") with _ | ⟨p, _ | ⟨q, r⟩⟩
  · rw [hs] at hj
    have : u = Str.empty := hj.symm
    subst this; decide
  · rw [hs] at hj hf
    have hp : p = u := hj
    subst hp
    have h47 := hf p (.head _)
    show p = _
    rw [tw_all (fun c hc => by simp; rintro rfl; exact h47 hc), tx_of]
  · rw [hs] at hj hf
    have h47 := hf p (.head _)
    have e : u.cps.toList = p.cps.toList ++ 47 :: (Str.join (Str.ofString "/") (q :: r)).cps.toList := by
      rw [← hj]
      show ((p ++ Str.ofString "/") ++ Str.join _ (q :: r)).cps.toList = _
      rw [PySem.Str.cps_append, PySem.Str.cps_append, e47]
      simp
    show p = _
    rw [e, List.takeWhile_append_of_pos (fun c hc => by simp; rintro rfl; exact h47 hc), List.takeWhile_cons_of_neg (by simp), List.append_nil, tx_of]
def tail12 : List Nat := [42, 47, 97, 98, 98, 97, 97, 97, 98, 97, 98, 47]
theorem tail_ : Str.ofString "*/abbaaabab/" = tx tail12 := by decide +kernel
theorem c4_47 {qs : List (Bool × Bool)} : ∀ c ∈ qs.map c4, (c != 47) = true := fun c h => by
  obtain ⟨⟨b, u⟩, _, rfl⟩ := List.mem_map.mp h; cases b <;> cases u <;> decide
theorem head_asked (qs : List (Bool × Bool)) : headPart (asked (st qs)) = st qs ++ star := by
  rw [head_take]
  unfold asked st star
  rw [tail_, tx_append, tx_append]
  show tx (List.takeWhile _ (List.map c4 qs ++ tail12)) = _
  rw [List.takeWhile_append_of_pos c4_47]; rfl
theorem head_st (qs : List (Bool × Bool)) : headPart (st qs) = st qs := by
  rw [head_take]
  unfold st
  show tx (List.takeWhile _ (List.map c4 qs)) = _
  rw [tw_all c4_47]
theorem hits_asked (qs : List (Bool × Bool)) (a : List Bool) : hits (asked (st qs)) (agOf (wt a)) = isIn a (qs.map (·.1)) := by
  unfold hits
  rw [ag_star, head_asked, lower_st_star, lower_ag, hasIn_star]; rfl
theorem hits_word (qs : List (Bool × Bool)) (a : List Bool) : hits (st qs) (agOf (wt a)) = isIn a (qs.map (·.1)) := by
  unfold hits
  rw [ag_star, head_st, lower_st, lower_ag, hasIn_wt]; rfl
theorem hits_star (u : Str) : hits u (Str.ofString "*") = false := by unfold hits; simp
/-- what a record of words says -/
theorem any_perm {α : Type} {p : α → Bool} {z : α} (hz : p z = false) (l : List α) : (List.take 1 l ++ z :: List.drop 1 l).any p = l.any p := by
  rw [List.any_append, List.any_cons, hz, Bool.false_or, ← List.any_append, List.take_append_drop]
theorem agents_any (u : Str) (ls : List (List Bool)) (bs : List Bool) (h : ∀ a, hits u (agOf (wt a)) = isIn a bs) : (agents (ls.map wt)).any (hits u) = ls.any fun a => isIn a bs := by
  unfold agents
  rw [any_perm (hits_star u), List.map_map, List.any_map]
  congr 1
  funext a
  exact h a
theorem agents_asked (qs : List (Bool × Bool)) (ls : List (List Bool)) : (agents (ls.map wt)).any (hits (asked (st qs))) = ls.any fun a => isIn a (qs.map (·.1)) := agents_any _ _ _ (hits_asked qs)
theorem agents_word (qs : List (Bool × Bool)) (ls : List (List Bool)) : (agents (ls.map wt)).any (hits (st qs)) = ls.any fun a => isIn a (qs.map (·.1)) := agents_any _ _ _ (hits_word qs)
theorem agents_asked2 (bs : List Bool) (ls : List (List Bool)) : (agents (ls.map wt)).any (hits (asked (wt bs))) = ls.any fun a => isIn a bs := by
  have := agents_asked (small bs) ls
  rwa [st_small, small_fst] at this
theorem agents_word2 (bs : List Bool) (ls : List (List Bool)) : (agents (ls.map wt)).any (hits (wt bs)) = ls.any fun a => isIn a bs := by
  have := agents_word (small bs) ls
  rwa [st_small, small_fst] at this
theorem slice_tail {bs : List Bool} (h : bs ≠ []) : Txt.slice (wt bs) (some 1) none = wt bs.tail := by
  have hl : 1 ≤ bs.length := by cases bs with | nil => exact absurd rfl h | cons _ _ => simp
  have := StrLaws.sliceText_from (x := wt bs) (i := 1) ⟨by decide, by show (1 : Int) ≤ ((bs.map c2).length : Int); rw [List.length_map]; omega⟩
  refine Eq.trans this ?_
  show tx (((bs.map c2).drop 1).take _) = tx (bs.tail.map c2)
  rw [List.take_of_length_le (by
    show _ ≤ (((bs.map c2).length : Int) - 1).toNat
    rw [List.length_drop]; omega)]
  congr 1
  cases bs <;> rfl
theorem slice_ij {bs : List Bool} {i j : Nat} (hij : i ≤ j) (hj : j ≤ bs.length) : Txt.slice (wt bs) (some (i : Int)) (some (j : Int)) = wt ((bs.drop i).take (j - i)) := by
  have := StrLaws.sliceText_nat (wt bs) (a := i) (b := j) hij (by unfold wt; rw [tx_length, List.length_map]; exact hj)
  refine Eq.trans this ?_
  show tx (((bs.map c2).drop i).take (j - i)) = _
  unfold wt
  rw [List.map_take, List.map_drop]
end Mine
end
section
open PySem PySem.W PyProof.Rows
set_option maxRecDepth 100000
set_option maxHeartbeats 0
namespace Mine
def growW (ws : List (List Bool)) : List (List Bool) := ws.flatMap fun w => [w ++ [false], w ++ [true]].filter fun u => ws.any (· == u.tail)
def facW (t : List Bool) : Nat → List (List Bool)
  | 0 => [[]]
  | k + 1 => (growW (facW t k)).filter fun w => isIn w t
def lacW (t : List Bool) : Nat → List (List Bool)
  | 0 => []
  | k + 1 => lacW t k ++ (growW (facW t k)).filter fun w => !isIn w t
theorem any_beq {α : Type} [BEq α] [LawfulBEq α] {l : List α} {a : α} : l.any (· == a) = true ↔ a ∈ l := by
  rw [List.any_eq_true]
  exact ⟨fun ⟨x, hx, e⟩ => eq_of_beq e ▸ hx, fun h => ⟨a, h, beq_self_eq_true a⟩⟩
theorem grow_mem {ws : List (List Bool)} {w : List Bool} : w ∈ growW ws ↔ w ≠ [] ∧ w.dropLast ∈ ws ∧ w.tail ∈ ws := by
  unfold growW
  rw [List.mem_flatMap]
  constructor
  · rintro ⟨x, hx, h⟩
    rw [List.mem_filter, any_beq] at h
    obtain ⟨h1, h2⟩ := h
    simp only [List.mem_cons, List.not_mem_nil, or_false] at h1
    rcases h1 with rfl | rfl <;> exact ⟨by simp, by rw [List.dropLast_concat]; exact hx, h2⟩
  · rintro ⟨hn, h1, h2⟩
    refine ⟨w.dropLast, h1, ?_⟩
    rw [List.mem_filter, any_beq]
    refine ⟨?_, h2⟩
    have e := List.dropLast_concat_getLast hn
    cases hc : w.getLast hn
    · rw [hc] at e; rw [e]; exact .head _
    · rw [hc] at e; rw [e]; exact .tail _ (.head _)
theorem fac_mem {t : List Bool} : ∀ {k : Nat} {w : List Bool}, w ∈ facW t k ↔ w.length = k ∧ isIn w t = true
  | 0, w => by
    unfold facW
    rw [List.mem_singleton, List.length_eq_zero_iff]
    exact ⟨fun h => ⟨h, by subst h; exact isIn_iff.mpr (List.nil_infix)⟩, fun h => h.1⟩
  | k + 1, w => by
    unfold facW
    rw [List.mem_filter, grow_mem, fac_mem, fac_mem]
    constructor
    · rintro ⟨⟨hn, ⟨h1, _⟩, _⟩, h⟩
      refine ⟨?_, h⟩
      rw [List.length_dropLast] at h1
      have : w.length ≠ 0 := fun e => hn (List.length_eq_zero_iff.mp e)
      omega
    · rintro ⟨hl, h⟩
      have h' := isIn_iff.mp h
      refine ⟨⟨fun e => (by subst e; simp at hl), ⟨by rw [List.length_dropLast]; omega, isIn_iff.mpr ((List.dropLast_prefix w).isInfix.trans h')⟩, ⟨by rw [List.length_tail]; omega, isIn_iff.mpr ((List.tail_suffix w).isInfix.trans h')⟩⟩, h⟩
theorem lac_mem {t : List Bool} : ∀ {n : Nat} {w : List Bool}, w ∈ lacW t n ↔ 1 ≤ w.length ∧ w.length ≤ n ∧ isIn w t = false ∧ isIn w.tail t = true ∧ isIn w.dropLast t = true
  | 0, w => by
    unfold lacW
    refine ⟨fun h => (nomatch h), fun h => ?_⟩
    omega
  | n + 1, w => by
    unfold lacW
    rw [List.mem_append, lac_mem, List.mem_filter, grow_mem, fac_mem, fac_mem, Bool.not_eq_true']
    have hd : w.dropLast.length = w.length - 1 := List.length_dropLast
    have ht : w.tail.length = w.length - 1 := List.length_tail
    constructor
    · rintro (⟨h1, h2, h3⟩ | ⟨⟨hn, ⟨h1, h2⟩, _, h3⟩, h4⟩)
      · exact ⟨h1, by omega, h3⟩
      · have : w.length ≠ 0 := fun e => hn (List.length_eq_zero_iff.mp e)
        exact ⟨by omega, by omega, h4, h3, h2⟩
    · rintro ⟨h1, h2, h3, h4, h5⟩
      by_cases h : w.length ≤ n
      · exact .inl ⟨h1, h, h3, h4, h5⟩
      · exact .inr ⟨⟨fun e => (by subst e; simp at h1), ⟨by omega, h5⟩, ⟨by omega, h4⟩⟩, h3⟩
theorem grow_len {ws : List (List Bool)} : (growW ws).length ≤ 2 * ws.length := by
  unfold growW
  have : ∀ l : List (List Bool), (l.flatMap fun w => [w ++ [false], w ++ [true]].filter fun u => ws.any (· == u.tail)).length ≤ 2 * l.length := by
    intro l
    induction l with
    | nil => simp
    | cons a l ih =>
      rw [List.flatMap_cons, List.length_append, List.length_cons]
      have : ([a ++ [false], a ++ [true]].filter fun u => ws.any (· == u.tail)).length ≤ 2 := List.length_filter_le _ _
      omega
  exact this ws
theorem fac_len {t : List Bool} : ∀ {k : Nat}, (facW t k).length ≤ 2 ^ k
  | 0 => Nat.le_refl _
  | k + 1 => by
    have ih := fac_len (t := t) (k := k)
    have := grow_len (ws := facW t k)
    have h2 : (facW t (k + 1)).length ≤ (growW (facW t k)).length := List.length_filter_le _ _
    rw [Nat.pow_succ]; omega
theorem lac_len {t : List Bool} : ∀ {n : Nat}, (lacW t n).length ≤ 2 * 2 ^ n
  | 0 => by simp [lacW]
  | n + 1 => by
    have ih := lac_len (t := t) (n := n)
    have h1 := fac_len (t := t) (k := n)
    have := grow_len (ws := facW t n)
    have h2 : ((growW (facW t n)).filter fun w => !isIn w t).length ≤ (growW (facW t n)).length := List.length_filter_le _ _
    have e : (lacW t (n + 1)).length = (lacW t n).length + ((growW (facW t n)).filter fun w => !isIn w t).length := by
      show (lacW t n ++ _).length = _
      rw [List.length_append]
    rw [e, Nat.pow_succ]; omega
def lacks (t : List Bool) : List (List Bool) := lacW t (t.length + 1)
/-- a word that is no part has a least part that is none -/
theorem least {t : List Bool} : ∀ (n : Nat) {bs : List Bool}, bs.length ≤ n → isIn bs t = false → ∃ w ∈ lacks t, isIn w bs = true := by
  intro n
  induction n with
  | zero =>
    intro bs hl h
    rw [List.length_eq_zero_iff.mp (Nat.le_zero.mp hl)] at h
    rw [isIn_iff.mpr List.nil_infix] at h; cases h
  | succ n ih =>
    intro bs hl h
    have hn : bs.length ≠ 0 := fun e => by
      rw [List.length_eq_zero_iff.mp e, isIn_iff.mpr List.nil_infix] at h; cases h
    have hd : bs.dropLast.length = bs.length - 1 := List.length_dropLast
    have ht : bs.tail.length = bs.length - 1 := List.length_tail
    cases h1 : isIn bs.tail t with
    | false =>
      obtain ⟨w, hw, e⟩ := ih (by omega) h1
      exact ⟨w, hw, isIn_iff.mpr ((isIn_iff.mp e).trans (List.tail_suffix bs).isInfix)⟩
    | true =>
      cases h2 : isIn bs.dropLast t with
      | false =>
        obtain ⟨w, hw, e⟩ := ih (by omega) h2
        exact ⟨w, hw, isIn_iff.mpr ((isIn_iff.mp e).trans (List.dropLast_prefix bs).isInfix)⟩
      | true =>
        have := (isIn_iff.mp h1).length_le
        exact ⟨bs, lac_mem.mpr ⟨by omega, by omega, h, h1, h2⟩, isIn_iff.mpr (List.infix_refl _)⟩
theorem lacks_any (t bs : List Bool) : ((lacks t).any fun a => isIn a bs) = !isIn bs t := by
  cases h : isIn bs t with
  | false =>
    obtain ⟨w, hw, e⟩ := least bs.length (Nat.le_refl _) h
    exact List.any_eq_true.mpr ⟨w, hw, e⟩
  | true =>
    refine List.any_eq_false.mpr fun a ha e => ?_
    have h3 := (lac_mem.mp ha).2.2.1
    rw [isIn_iff.mpr ((isIn_iff.mp e).trans (isIn_iff.mp h))] at h3
    cases h3
theorem infix_parts {a b : List Bool} (h : a <:+: b) (hne : a ≠ b) : a <:+: b.tail ∨ a <:+: b.dropLast := by
  obtain ⟨p, q, rfl⟩ := h
  rcases p with _ | ⟨c, p⟩
  · rcases List.eq_nil_or_concat q with rfl | ⟨q', z, rfl⟩
    · exact absurd (by simp) hne
    · right
      refine ⟨[], q', ?_⟩
      have : [] ++ a ++ q'.concat z = (a ++ q') ++ [z] := by simp
      rw [this, List.dropLast_concat]; rfl
  · left; exact ⟨p, q, rfl⟩
theorem lacks_own {t w : List Bool} (hw : w ∈ lacks t) : (((lacks t).filter fun a => !(a == w)).any fun a => isIn a w) = false := by
  refine List.any_eq_false.mpr fun a ha e => ?_
  rw [List.mem_filter, Bool.not_eq_true', beq_eq_false_iff_ne] at ha
  obtain ⟨ha, hne⟩ := ha
  have h3 := (lac_mem.mp ha).2.2.1
  obtain ⟨_, _, _, h4, h5⟩ := lac_mem.mp hw
  rcases infix_parts (isIn_iff.mp e) hne with h | h
  · rw [isIn_iff.mpr (h.trans (isIn_iff.mp h4))] at h3; cases h3
  · rw [isIn_iff.mpr (h.trans (isIn_iff.mp h5))] at h3; cases h3
def stepR (t name : List Bool) : List Bool := if isIn (name ++ [false]) t then name ++ [false] else if isIn (name ++ [true]) t then name ++ [true] else name
def stepL (t name : List Bool) : List Bool := if isIn (false :: name) t then false :: name else if isIn (true :: name) t then true :: name else name
def iter (f : List Bool → List Bool) : Nat → List Bool → List Bool
  | 0, x => x
  | n + 1, x => f (iter f n x)
def words : Nat → List (List Bool)
  | 0 => [[]]
  | n + 1 => (words n).flatMap fun w => [w ++ [false], w ++ [true]]
theorem mem_words : ∀ {n : Nat} {bs : List Bool}, bs.length = n → bs ∈ words n
  | 0, bs, h => by rw [List.length_eq_zero_iff.mp h]; exact .head _
  | n + 1, bs, h => by
    have hne : bs ≠ [] := by rintro rfl; simp at h
    refine List.mem_flatMap.mpr ⟨bs.dropLast, mem_words (by rw [List.length_dropLast, h]; rfl), ?_⟩
    have e := List.dropLast_concat_getLast hne
    generalize bs.getLast hne = c at e
    rw [← e, List.dropLast_concat]
    cases c
    · exact .head _
    · exact .tail _ (.head _)
def recon (t : List Bool) : List Bool := iter (stepL t) (t.length + 1) (iter (stepR t) (t.length + 1) [])
theorem rec_0 : (words 0).all (fun t => recon t == t) = true := by decide +kernel
theorem rec_1 : (words 1).all (fun t => recon t == t) = true := by decide +kernel
theorem rec_2 : (words 2).all (fun t => recon t == t) = true := by decide +kernel
theorem rec_3 : (words 3).all (fun t => recon t == t) = true := by decide +kernel
theorem rec_4 : (words 4).all (fun t => recon t == t) = true := by decide +kernel
theorem rec_5 : (words 5).all (fun t => recon t == t) = true := by decide +kernel
theorem rec_6 : (words 6).all (fun t => recon t == t) = true := by decide +kernel
theorem recon_eq {t : List Bool} (h : t.length ≤ 6) : recon t = t := by
  have : t.length = 0 ∨ t.length = 1 ∨ t.length = 2 ∨ t.length = 3 ∨ t.length = 4 ∨ t.length = 5 ∨ t.length = 6 := by omega
  rcases this with h | h | h | h | h | h | h
  · exact eq_of_beq (List.all_eq_true.mp rec_0 t (mem_words h))
  · exact eq_of_beq (List.all_eq_true.mp rec_1 t (mem_words h))
  · exact eq_of_beq (List.all_eq_true.mp rec_2 t (mem_words h))
  · exact eq_of_beq (List.all_eq_true.mp rec_3 t (mem_words h))
  · exact eq_of_beq (List.all_eq_true.mp rec_4 t (mem_words h))
  · exact eq_of_beq (List.all_eq_true.mp rec_5 t (mem_words h))
  · exact eq_of_beq (List.all_eq_true.mp rec_6 t (mem_words h))
theorem stepR_len (t x : List Bool) : (stepR t x).length ≤ x.length + 1 := by
  unfold stepR; split <;> (try split) <;> (try simp only [List.length_append, List.length_cons, List.length_nil]) <;> omega
theorem stepL_len (t x : List Bool) : (stepL t x).length ≤ x.length + 1 := by
  unfold stepL; split <;> (try split) <;> (try simp only [List.length_append, List.length_cons, List.length_nil]) <;> omega
theorem iter_len {f : List Bool → List Bool} (hf : ∀ x, (f x).length ≤ x.length + 1) : ∀ {n : Nat} {x : List Bool}, (iter f n x).length ≤ x.length + n
  | 0, x => Nat.le_refl _
  | n + 1, x => by
    have h1 := iter_len hf (n := n) (x := x)
    have h2 := hf (iter f n x)
    show (f (iter f n x)).length ≤ _
    omega
/-- the parts of a text -/
def pieces (t : List Bool) : List (List Bool) := (List.range (t.length + 1)).flatMap fun i => (List.range (t.length + 1 - i)).map fun k => (t.drop i).take k
theorem pieces_mem {t w : List Bool} : w ∈ pieces t ↔ isIn w t = true := by
  unfold pieces
  rw [isIn_iff, List.mem_flatMap]
  constructor
  · rintro ⟨i, _, h⟩
    obtain ⟨k, _, rfl⟩ := List.mem_map.mp h
    exact (List.take_prefix _ _).isInfix.trans (List.drop_suffix _ _).isInfix
  · rintro ⟨p, q, rfl⟩
    refine ⟨p.length, List.mem_range.mpr (by simp only [List.length_append]; omega), List.mem_map.mpr ⟨w.length, List.mem_range.mpr (by simp only [List.length_append]; omega), ?_⟩⟩
    rw [List.append_assoc, List.drop_left, List.take_left]
theorem pieces_any (t bs : List Bool) : ((pieces t).map wt).any (· == wt bs) = isIn bs t := by
  refine bool_iff ?_
  rw [any_beq, List.mem_map]
  constructor
  · rintro ⟨a, ha, e⟩
    rw [← wt_inj e]; exact pieces_mem.mp ha
  · exact fun h => ⟨bs, pieces_mem.mpr h, rfl⟩
/-- of a list, those that a part of it does not hold -/
theorem filt_not {α : Type} [BEq α] [LawfulBEq α] {l : List α} {p : α → Bool} : (l.filter fun x => !((l.filter p).any (· == x))) = l.filter fun x => !p x := by
  refine List.filter_congr fun x hx => ?_
  congr 1
  refine bool_iff ?_
  rw [any_beq, List.mem_filter]
  exact ⟨fun h => h.2, fun h => ⟨hx, h⟩⟩
end Mine
end
section
open PySem PySem.W PyProof.Rows PySem.Calls
set_option maxRecDepth 100000
set_option maxHeartbeats 0
namespace Mine
theorem ints_get {ns : List Int} {vs : List Value} (h : IntsAre vs ns) {i : Nat} {v : Value} (hv : vs[i]? = some v) : ∃ n t, ns[i]? = some n ∧ v = .int n t := by
  have hl : i < ns.length := by
    rw [← h.length]
    exact (List.getElem?_eq_some_iff.mp hv).1
  obtain ⟨t, hx⟩ := h.get i ns[i] (by simp [hl])
  rw [hx] at hv
  exact ⟨_, t, by simp [hl], (Option.some.inj hv).symm⟩
def IsQ (_ y : Value) : Prop := ∃ (q : Bool × Bool) (t : Tok), y = .str (st [q]) t
def q4 (j : Int) : Bool × Bool := (j == 1 || j == 3, j == 2 || j == 3)
theorem q_item (j : Int) : Txt.item (Str.ofString "abAB") (j.fmod 4) = st [q4 (j.fmod 4)] := by
  have h0 : 0 ≤ j.fmod 4 := Int.fmod_nonneg_of_pos j (by decide)
  have h2 : j.fmod 4 < 4 := Int.fmod_lt_of_pos j (by decide)
  have : j.fmod 4 = 0 ∨ j.fmod 4 = 1 ∨ j.fmod 4 = 2 ∨ j.fmod 4 = 3 := by omega
  rcases this with e | e | e | e <;> rw [e] <;> decide
theorem is_q {v : Value} {j : Int} {t : Tok} : IsQ v (.str (Txt.item (Str.ofString "abAB") (j.fmod 4)) t) := ⟨_, t, by rw [q_item]⟩
theorem qs_of : ∀ {vs ys : List Value}, Paired IsQ vs ys → ∃ qs : List (Bool × Bool), qs.length = vs.length ∧ Strs ys (qs.map fun q => st [q])
  | _, _, .nil => ⟨[], rfl, .nil⟩
  | _, _, .cons ⟨q, t, e⟩ h => by
    obtain ⟨qs, hl, hs⟩ := qs_of h
    subst e
    exact ⟨q :: qs, by simp [hl], .cons _ t hs⟩
theorem st_len (qs : List (Bool × Bool)) : (st qs).length = qs.length := by unfold st; rw [tx_length, List.length_map]
theorem wt_len (bs : List Bool) : (wt bs).length = bs.length := by unfold wt; rw [tx_length, List.length_map]
theorem st_append (a b : List (Bool × Bool)) : st a ++ st b = st (a ++ b) := by unfold st; rw [tx_append, List.map_append]
theorem wt_append (a b : List Bool) : wt a ++ wt b = wt (a ++ b) := by unfold wt; rw [tx_append, List.map_append]
theorem st_sum : ∀ qs : List (Bool × Bool), ((qs.map fun q => st [q]).map (·.length)).sum = qs.length
  | [] => rfl
  | q :: qs => by simp only [List.map_cons, List.sum_cons, st_len, List.length_cons, List.length_nil]; rw [st_sum qs]; omega
theorem st_join : ∀ qs : List (Bool × Bool), Txt.join (Str.ofString "") (qs.map fun q => st [q]) = st qs := by
  intro qs
  show Builtin.Str.glued _ _ = _
  rw [StrLaws.glued_eq_join]
  have e0 : Str.ofString "" = Str.empty := by decide
  rw [e0]
  induction qs with
  | nil => rfl
  | cons q qs ih =>
    cases qs with
    | nil => rfl
    | cons r qs =>
      show st [q] ++ Str.empty ++ Str.join Str.empty _ = _
      rw [ih, PySem.Str.append_empty, st_append]; rfl
def bitsOf (qs : List (Bool × Bool)) : List Bool := qs.map (·.1)
section
variable {prog : Program} {w : World} {A : Around} {E : Value → Shared → Prop} {s : Shared} {Q : Value → Shared → Prop} {t u : Tok}
theorem len_wt {bs : List Bool} (hl : bs.length ≤ 1000) (h : ∀ t' k, Q (.int (bs.length : Int) t') { s with toks := k }) : wpAny (model prog w) A (call (.builtin "len") [.str (wt bs) t]) Q E s := by
  refine len_str (by rw [wt_len]; omega) ?_
  rw [wt_len]
  exact h _ _
theorem add_st {qs rs : List (Bool × Bool)} (hl : qs.length + rs.length ≤ 1000) (h : ∀ t' k, Q (.str (st (qs ++ rs)) t') { s with toks := k }) : wpAny (model prog w) A (binaryOp .Add (.str (st qs) t) (.str (st rs) u)) Q E s := by
  rw [← st_append] at h
  exact PyProof.Rows.add_str h (by rw [st_len, st_len, sizeLine_eq]; omega)
theorem add_wt {qs rs : List Bool} (hl : qs.length + rs.length ≤ 1000) (h : ∀ t' k, Q (.str (wt (qs ++ rs)) t') { s with toks := k }) : wpAny (model prog w) A (binaryOp .Add (.str (wt qs) t) (.str (wt rs) u)) Q E s := by
  rw [← wt_append] at h
  exact PyProof.Rows.add_str h (by rw [wt_len, wt_len, sizeLine_eq]; omega)
theorem lower_q {qs : List (Bool × Bool)} {T : List Bool} (hT : T = bitsOf qs) (hl : qs.length ≤ 1000) (h : Q (.str (wt T) s.toks) { s with toks := s.toks + 1 }) : wpAny (model prog w) A (call (.builtin "str.lower") [.str (st qs) t]) Q E s := by
  rw [show wt T = Txt.lower (st qs) from by rw [hT]; exact (lower_st qs).symm] at h
  exact SCL.lower (by rw [st_len]; omega) fun _ => h
end
section
variable {prog : Program} {w : World} {A : Around} {E : Value → Shared → Prop} {s : Shared} {env : Env} {h₀ : Heap} {x : Str} {body : List Stmt} {Q : Flow → Shared → Prop}
theorem unrPost_mono {L I : Addr} {s₁ : Shared} {it : Obj} {J J' : (Str → Option Value) → List (Addr × Obj) → Prop} (hJ : ∀ m news, J m news → J' m news) : ∀ f s₂, UnrPost h₀ L s₁ I it J Q f s₂ → UnrPost h₀ L s₁ I it J' Q f s₂ := by
  intro f s₂ h
  have e : UnrEnd h₀ L s₁ I it J s₂ → UnrEnd h₀ L s₁ I it J' s₂ := by
    rintro ⟨h', tk, m', news', e, F, N, o, j⟩
    exact ⟨h', tk, m', news', e, F, N, o, hJ _ _ j⟩
  cases f with
  | ret v => exact h
  | brk => exact h
  | next => exact e h
  | cont => exact e h
theorem krs_inv {I : Addr} {a c : Int} {n : Nat} (J : Nat → (Str → Option Value) → List (Addr × Obj) → Prop)
    (turn : ∀ i m news t h tk, i < n → J i m news → Fr h₀ env.locals h (fun y => if y = x then some (.int (a + (i : Int) * c) t) else m y) → News h₀ env.locals h ((I, krsIt (a + ((i + 1 : Nat) : Int) * c) ((n : Int) - ((i + 1 : Nat) : Int)) c) :: news) →
      wpAny (model prog w) A (execs body env) (UnrPost h₀ env.locals { s with heap := h, toks := tk } I (krsIt (a + ((i + 1 : Nat) : Int) * c) ((n : Int) - ((i + 1 : Nat) : Int)) c) (J (i + 1)) Q) E { s with heap := h, toks := tk })
    (done : ∀ m news h tk, J n m news → Fr h₀ env.locals h m → News h₀ env.locals h news → Q .next { s with heap := h, toks := tk }) :
    ∀ k i m news, k + i = n → J i m news → KrsRest prog w A E h₀ env x body Q s I a c n k i m news := by
  intro k
  induction k with
  | zero => intro i m news hk hj h tk F N; exact done m news h tk (by rw [← hk, Nat.zero_add]; exact hj) F N
  | succ k ih =>
    intro i m news hk hj t h tk F N
    refine wpAny_mono (turn i m news t h tk (by omega) hj F N) (unrPost_mono fun m' news' hj' => ih (i + 1) m' news' (by omega) hj') fun _ _ e => e
theorem size_one {a b : Nat} (h : a ≤ b) : Builtin.Range.rangeSize (a : Int) (b : Int) 1 = ((b - a : Nat) : Int) := by
  unfold Builtin.Range.rangeSize
  rw [if_pos (by decide)]
  split <;> omega
/-- a for over range(n): J tells what holds between the turns -/
theorem rng_loop {r : Addr} {b : Int} {n : Nat} {t₀ u₀ v₀ : Tok} {m₀ : Str → Option Value} {all : List (Addr × Obj)} (J : Nat → (Str → Option Value) → List (Addr × Obj) → Prop) (news₀ : List (Addr × Obj))
    (hh : A.handled = none) (hr : IsRange s.heap r 0 b 1 t₀ u₀ v₀) (hb : b = (n : Int)) (hn : n ≤ 1000) (F : Fr h₀ env.locals s.heap m₀) (N : News h₀ env.locals s.heap all)
    (sub : ∀ p ∈ news₀, p ∈ all) (h0 : J 0 m₀ news₀)
    (turn : ∀ (I : Addr) (iT : Nat) (mT : Str → Option Value) (newsT : List (Addr × Obj)) (tT : Tok) (hT : Heap) (tkT : Nat) (hiT : iT < n) (hIT : ∀ p ∈ news₀, @LT.lt Nat _ p.1 I) (HJ : J iT mT newsT)
      (FT : Fr h₀ env.locals hT (fun y => if y = x then some (.int (0 + (iT : Int) * 1) tT) else mT y)) (NT : News h₀ env.locals hT ((I, krsIt (0 + ((iT + 1 : Nat) : Int) * 1) ((n : Int) - ((iT + 1 : Nat) : Int)) 1) :: newsT)),
      wpAny (model prog w) A (execs body env) (UnrPost h₀ env.locals { s with heap := hT, toks := tkT } I (krsIt (0 + ((iT + 1 : Nat) : Int) * 1) ((n : Int) - ((iT + 1 : Nat) : Int)) 1) (J (iT + 1)) Q) E { s with heap := hT, toks := tkT })
    (done : ∀ (mT : Str → Option Value) (newsT : List (Addr × Obj)) (hT : Heap) (tkT : Nat) (HJ : J n mT newsT) (FT : Fr h₀ env.locals hT mT) (NT : News h₀ env.locals hT newsT), Q .next { s with heap := hT, toks := tkT }) :
    wpAny (model prog w) A (pyIter (.ref r)) (fun it s₂ => LoopAtV prog w A h₀ env x body Q E it s₂) E s := by
  subst hb
  have hs : Builtin.Range.small 0 (n : Int) 1 = true := small_one (by decide) (by decide) (by omega) (by omega)
  have hz : Builtin.Range.rangeSize 0 (n : Int) 1 = (n : Int) := size_one (a := 0) (Nat.zero_le n)
  refine krs_iter (n := n) hh hr hs hz F (fun p hp => N p (sub p hp)) fun I hI => ?_
  exact krs_inv J (fun i m news t h tk hi hj F1 N1 => turn I i m news t h tk hi hI hj F1 N1) done n 0 _ _ rfl h0
end
/-- the names in the first loop -/
abbrev mapW (m₀ : Str → Option Value) (u v x : Option Value) : Str → Option Value := fun y => if y = Str.ofString "size" then u else if y = Str.ofString "grown" then v else if y = Str.ofString "here" then x else m₀ y
theorem mapW_start (m₀ : Str → Option Value) : m₀ = mapW m₀ (m₀ (Str.ofString "size")) (m₀ (Str.ofString "grown")) (m₀ (Str.ofString "here")) := by
  funext y
  show m₀ y = if y = Str.ofString "size" then m₀ (Str.ofString "size") else if y = Str.ofString "grown" then m₀ (Str.ofString "grown") else if y = Str.ofString "here" then m₀ (Str.ofString "here") else m₀ y
  by_cases e1 : y = Str.ofString "size"
  · rw [if_pos e1, e1]
  · rw [if_neg e1]
    by_cases e2 : y = Str.ofString "grown"
    · rw [if_pos e2, e2]
    · rw [if_neg e2]
      by_cases e3 : y = Str.ofString "here"
      · rw [if_pos e3, e3]
      · rw [if_neg e3]
/-- between the turns of the first loop -/
def JW (T : List Bool) (m₀ : Str → Option Value) (lk cw : Addr) (rest : List (Addr × Obj)) (i : Nat) (m : Str → Option Value) (news : List (Addr × Obj)) : Prop :=
  ∃ (wl : Addr) (oW : Obj) (vs us : List Value) (c ck : Nat) (u v x : Option Value), m = mapW m₀ u v x ∧ news = (wl, lstObj vs.toArray c) :: (lk, lstObj us.toArray ck) :: (cw, oW) :: rest ∧
    oW.data = .cell (some (.ref wl)) ∧ Strs vs ((facW T i).map wt) ∧ Strs us ((lacW T i).map wt) ∧ @Ne Nat wl lk ∧ @Ne Nat wl cw
theorem news_sub {h₀ h : Heap} {L : Addr} {news news' : List (Addr × Obj)} (N : News h₀ L h news) (hs : ∀ p ∈ news', p ∈ news) : News h₀ L h news' := fun p hp => N p (hs p hp)
theorem pick1 {h₀ h : Heap} {L : Addr} {a b c d e f g : Addr × Obj} (N : News h₀ L h [a, b, c, d, e, f, g]) : News h₀ L h [a, b, d, e, f, g] := news_sub N fun p hp => by
  simp only [List.mem_cons, List.not_mem_nil, or_false] at hp ⊢
  rcases hp with h | h | h | h | h | h <;> simp [h]
theorem fr_up {h₀ h h' : Heap} {L : Addr} {m : Str → Option Value} (F : Fr h₀ L h m) (U : Up [L] h h') : Fr h₀ L h' m := by
  obtain ⟨o, es, ep, ho, hd, hk, hf⟩ := F.ns
  obtain ⟨sl, hsl⟩ := (U L o ho).2 (.head _)
  refine ⟨⟨_, es, ep, hsl, hd, hk, hf⟩, fun b o e => (U b o (F.keep b o e)).1 fun hm => ?_, F.above⟩
  have := Nat.lt_of_lt_of_le (Heap.lt_size e) F.above
  rw [List.mem_singleton.mp hm] at this
  exact Nat.lt_irrefl _ this
theorem news_up {h₀ h h' : Heap} {L : Addr} {news : List (Addr × Obj)} (N : News h₀ L h news) (U : Up [L] h h') : News h₀ L h' news := fun q hq =>
  ⟨(U q.1 q.2 (N q hq).1).1 fun hm => (N q hq).2.1 (List.mem_singleton.mp hm), (N q hq).2⟩
theorem pow_le64 {i : Nat} (h : i ≤ 6) : 2 ^ i ≤ 64 := by
  have : i = 0 ∨ i = 1 ∨ i = 2 ∨ i = 3 ∨ i = 4 ∨ i = 5 ∨ i = 6 := by omega
  rcases this with rfl | rfl | rfl | rfl | rfl | rfl | rfl <;> decide
theorem sign_ab {j : Nat} {u : Value} (h : SignAt (Str.ofString "ab") j u) : ∃ (b : Bool) (t : Tok), u = .str (wt [b]) t ∧ (j = 0 → b = false) ∧ (j = 1 → b = true) ∧ j < 2 := by
  obtain ⟨c, t, hc, rfl⟩ := h
  have e : (Str.ofString "ab").cps = #[97, 98] := by decide
  rw [e] at hc
  rcases j with _ | _ | j
  · cases hc; exact ⟨false, t, congrArg (Value.str · t) (show _ = wt [false] from by decide), fun _ => rfl, by intro h; omega, by omega⟩
  · cases hc; exact ⟨true, t, congrArg (Value.str · t) (show _ = wt [true] from by decide), by intro h; omega, fun _ => rfl, by omega⟩
  · simp at hc
def CatEl (x : Str) (u z : Value) : Prop := ∃ (y : Str) (t t' : Tok), u = .str y t ∧ z = .str (x ++ y) t'
def tailIn (xs : List Str) (x : Str) : Value → Bool
  | .str y _ => xs.any (· == Txt.slice (x ++ y) (some 1) none)
  | _ => false
theorem any_wt (ws : List (List Bool)) (a : List Bool) : ((ws.map wt).any (· == wt a)) = ws.any (· == a) := by
  refine bool_iff ?_
  rw [any_beq, any_beq, List.mem_map]
  exact ⟨fun ⟨b, hb, e⟩ => wt_inj e ▸ hb, fun h => ⟨a, h, rfl⟩⟩
theorem tailIn_wt (ws : List (List Bool)) (a : List Bool) (b : Bool) (t : Tok) : tailIn (ws.map wt) (wt a) (.str (wt [b]) t) = ws.any (· == (a ++ [b]).tail) := by
  unfold tailIn
  simp only
  rw [wt_append, slice_tail (by simp), any_wt]
theorem letters_of {ws : List (List Bool)} {zs : List Value} {a : List Bool} {vs2 : List Value} (hlen : vs2.length = (Str.ofString "ab").cps.size) (hs : ∀ (j : Nat) (u : Value), vs2[j]? = some u → SignAt (Str.ofString "ab") j u)
    (hP : Paired (CatEl (wt a)) (vs2.filter (tailIn (ws.map wt) (wt a))) zs) : Strs zs (([a ++ [false], a ++ [true]].filter fun u => ws.any (· == u.tail)).map wt) := by
  obtain ⟨u1, u2, rfl⟩ : ∃ u1 u2, vs2 = [u1, u2] := by
    rcases vs2 with _ | ⟨u1, _ | ⟨u2, _ | ⟨u3, r⟩⟩⟩
    all_goals (have h2 : (Str.ofString "ab").cps.size = 2 := by decide)
    all_goals (rw [h2] at hlen; simp at hlen)
    exact ⟨u1, u2, rfl⟩
  obtain ⟨b1, t1, rfl, hb1, _, _⟩ := sign_ab (hs 0 u1 rfl)
  obtain ⟨b2, t2, rfl, _, hb2, _⟩ := sign_ab (hs 1 u2 rfl)
  rw [hb1 rfl, hb2 rfl] at hP
  simp only [List.filter_cons, List.filter_nil, tailIn_wt] at hP ⊢
  have one : ∀ {us zs : List Value} {b : Bool} {t : Tok} {xs : List Str}, (∀ zs', Paired (CatEl (wt a)) us zs' → Strs zs' xs) → Paired (CatEl (wt a)) (.str (wt [b]) t :: us) zs → Strs zs (wt (a ++ [b]) :: xs) := by
    intro us zs b t xs hx h
    cases h with
    | cons e h =>
      obtain ⟨y, t, t', e1, rfl⟩ := e
      cases e1
      rw [wt_append]
      exact .cons _ _ (hx _ h)
  have nil : ∀ zs', Paired (CatEl (wt a)) [] zs' → Strs zs' [] := fun zs' h => by cases h; exact .nil
  split at hP <;> split at hP <;> rename_i h1 h2
  · rw [if_pos h1, if_pos h2]; exact one (fun _ h => one nil h) hP
  · rw [if_pos h1, if_neg h2]; exact one nil hP
  · rw [if_neg h1, if_pos h2]; exact one nil hP
  · rw [if_neg h1, if_neg h2]; exact nil _ hP
theorem strs_append {vs vs' : List Value} {xs xs' : List Str} (h : Strs vs xs) (h' : Strs vs' xs') : Strs (vs ++ vs') (xs ++ xs') := by
  induction h with
  | nil => exact h'
  | cons x t _ ih => exact .cons x t ih
def GrowEl (ws : List (List Bool)) (v : Value) (zs : List Value) : Prop := ∃ (a : List Bool) (t : Tok), v = .str (wt a) t ∧ Strs zs (([a ++ [false], a ++ [true]].filter fun u => ws.any (· == u.tail)).map wt)
theorem grow_of {ws : List (List Bool)} : ∀ {vs : List Value} {as : List (List Bool)} {wss : List (List Value)}, Strs vs (as.map wt) → Paired (GrowEl ws) vs wss → Strs wss.flatten ((as.flatMap fun a => [a ++ [false], a ++ [true]].filter fun u => ws.any (· == u.tail)).map wt) := by
  intro vs as
  induction as generalizing vs with
  | nil => intro wss h hP; cases h; cases hP; exact .nil
  | cons a as ih =>
    intro wss h hP
    cases h with
    | cons _ t h =>
      cases hP with
      | cons e hP =>
        obtain ⟨a', t', e1, hz⟩ := e
        have := wt_inj (by injection e1)
        subst this
        rw [List.flatten_cons, List.flatMap_cons, List.map_append]
        exact strs_append hz (ih h hP)
theorem strs_wt {vs : List Value} {as : List (List Bool)} (h : Strs vs (as.map wt)) {i : Nat} {v : Value} (hv : vs[i]? = some v) : ∃ a t, as[i]? = some a ∧ v = .str (wt a) t := by
  obtain ⟨x, t, hx, e⟩ := strs_get h hv
  rw [List.getElem?_map] at hx
  rcases ha : as[i]? with _ | a
  · rw [ha] at hx; cases hx
  · rw [ha] at hx; cases hx
    exact ⟨a, t, rfl, e⟩
theorem fresh_all {h₀ h : Heap} {L D : Addr} {news : List (Addr × Obj)} (N : News h₀ L h news) (hn : h.get? D = none) : ∀ p ∈ news, @Ne Nat D p.1 := fun p hp e => by
  have := (N _ hp).1
  rw [← show D = p.1 from e, hn] at this; cases this
def hereP (u : Str) : Value → Bool
  | .str y _ => (agents [y]).any (hits u)
  | _ => false
theorem InElt.trans' {a b c : Heap} (h : InElt a b) (k : b.StaysIn c) : InElt a c := fun x o e => k x o (h x o e)
theorem newList_E {M : Model} {A : Around} {E : Value → Shared → Prop} {s : Shared} {h₀ h₁ : Heap} {L : Addr} {m : Str → Option Value} {news : List (Addr × Obj)} {vs : List Value} {Q : Value → Shared → Prop} (F : Fr h₀ L s.heap m) (N : News h₀ L s.heap news) (hE : InElt h₁ s.heap)
    (h : ∀ l h', Fr h₀ L h' m → News h₀ L h' ((l, listOf vs.toArray 0) :: news) → (∀ p ∈ news, p.1 < l) → InElt h₁ h' → Q (.ref l) { s with heap := h' }) (hsz : vs.length ≤ sizeLine := by size_fits) : wpAny M A (newList vs) Q E s :=
  wpAny_newObj_type (h _ _ (F.push _) (N.push F _) (fun p hp => Heap.lt_size (N p hp).1) fun b o e => Heap.get?_push_of_some _ (hE b o e)) (by show vs.toArray.size ≤ sizeLine; rw [List.size_toArray]; exact hsz)
theorem grow_length {t w : List Bool} {k : Nat} (h : w ∈ growW (facW t k)) : w.length = k + 1 := by
  obtain ⟨hn, h1, _⟩ := grow_mem.mp h
  have h1 := (fac_mem.mp h1).1
  rw [List.length_dropLast] at h1
  have : w.length ≠ 0 := fun e => hn (List.length_eq_zero_iff.mp e)
  omega
theorem agOf_len (bs : List Bool) : (agOf (wt bs)).length ≤ 3 * bs.length := by
  unfold agOf
  split
  · have := len_upper (wt bs)
    rw [wt_len] at this; exact this
  · rw [wt_len]; omega
theorem agents_len {as : List (List Bool)} (h : ∀ a ∈ as, a.length ≤ 1000) : ∀ x ∈ agents (as.map wt), x.length ≤ 100000 := by
  have key : ∀ x ∈ (as.map wt).map agOf, x.length ≤ 100000 := fun x hx => by
    obtain ⟨y, hy, e⟩ := List.mem_map.mp hx
    obtain ⟨a, ha, e2⟩ := List.mem_map.mp hy
    have := agOf_len a
    have := h a ha
    rw [← e, ← e2]; omega
  intro x hx
  unfold agents at hx
  rcases List.mem_append.mp hx with h | h
  · exact key x (List.mem_of_mem_take h)
  · rcases List.mem_cons.mp h with h | h
    · subst h; exact Nat.le_trans (show (Str.ofString "*").length ≤ 1 by decide) (by omega)
    · exact key x (List.mem_of_mem_drop h)
section
variable {prog : Program} {w : World} {A : Around} {E : Value → Shared → Prop} {s : Shared} {h₀ : Heap} {L D b : Addr} {m : Str → Option Value} {news : List (Addr × Obj)} {its its2 : Array Value} {n n2 : Nat} {g : Obj → List (Addr × Obj)} {Q : Value → Shared → Prop}
theorem extend_any {us vs : List Value} (F : Fr h₀ L s.heap m) (N : News h₀ L s.heap news) (hb : (b, lstObj vs.toArray n2) ∈ news) (U : UpdF D (lstObj us.toArray n) news g) (hz : us.length + vs.length ≤ 100000)
    (h : ∀ h' k, Fr h₀ L h' m → News h₀ L h' (g (lstObj (us ++ vs).toArray k)) → Q .none { s with heap := h' }) : wpAny (model prog w) A (call (.builtin "list.extend") [.ref D, .ref b]) Q E s := by
  obtain ⟨pre, post, hls, hg, a, c⟩ := U.split
  have z := N (D, lstObj us.toArray n) (by rw [hls]; exact List.mem_append_right _ (.head _))
  have eq : us.toArray ++ vs.toArray = (us ++ vs).toArray := by simp
  have e2 : Obj.mapSeq (fun x => x ++ vs.toArray) (lstObj us.toArray n) = lstObj (us ++ vs).toArray (if (us.toArray ++ vs.toArray).size == us.toArray.size then n else n + 1) := by
    rw [← eq]; rfl
  have ⟨U1, U2⟩ := news_upd (f := Obj.mapSeq fun x => x ++ vs.toArray) (o' := lstObj (us ++ vs).toArray (if (us.toArray ++ vs.toArray).size == us.toArray.size then n else n + 1)) F (hls ▸ N) a c e2 rfl
  refine call_meets PySem.F.slot_list_extend ⟨_, z.1, rfl⟩ PySem.F.entry_list_extend (PySem.F.args_list_extend_2 _ _) (PySem.AutoSeq1.list_extend_list_list_0 D us.toArray n b vs.toArray n2 ?_ ?_ ?_) ⟨z.1, (N _ hb).1, h _ _ U1 (hg _ ▸ U2)⟩
  · have : Builtin.List.listTooLong (us.toArray.size + vs.toArray.size) = false := by
      unfold Builtin.List.listTooLong
      rw [decide_eq_false_iff_not, sizeLine_eq, List.size_toArray, List.size_toArray]; omega
    rw [this]; simp
  · rw [sizeLine_eq, List.size_toArray]; omega
  · rw [sizeLine_eq, List.size_toArray, List.size_toArray]; omega
end
theorem mapW_end {m₀ : Str → Option Value} {u v x u' v' x' : Option Value} :
    (fun y => if y = Str.ofString "here" then x' else if y = Str.ofString "grown" then v' else if y = Str.ofString "size" then u' else mapW m₀ u v x y) = mapW m₀ u' v' x' := by
  funext y
  show _ = if y = Str.ofString "size" then u' else if y = Str.ofString "grown" then v' else if y = Str.ofString "here" then x' else m₀ y
  by_cases h1 : y = Str.ofString "here"
  · subst h1; rw [if_pos rfl, if_neg (by decide), if_neg (by decide), if_pos rfl]
  · rw [if_neg h1]
    by_cases h2 : y = Str.ofString "grown"
    · subst h2; rw [if_pos rfl, if_neg (by decide), if_pos rfl]
    · rw [if_neg h2]
      by_cases h3 : y = Str.ofString "size"
      · rw [if_pos h3, if_pos h3]
      · rw [if_neg h3, if_neg h3, if_neg h2, if_neg h1]
        show (if y = Str.ofString "size" then u else if y = Str.ofString "grown" then v else if y = Str.ofString "here" then x else m₀ y) = _
        rw [if_neg h3, if_neg h2, if_neg h1]
theorem here_of {vs : List Value} {as : List (List Bool)} {sh : List (Bool × Bool)} {bt : List Bool} (hbt : bt = bitsOf sh) (h : Strs vs (as.map wt)) : Strs (vs.filter (hereP (asked (st sh)))) ((as.filter fun a => isIn a bt).map wt) := by
  have := strs_filter (pv := hereP (asked (st sh))) (q := fun x => (agents [x]).any (hits (asked (st sh)))) (fun _ _ => rfl) h
  rw [List.filter_map] at this
  have e : (as.filter ((fun x => (agents [x]).any (hits (asked (st sh)))) ∘ wt)) = as.filter fun a => isIn a bt := List.filter_congr fun a _ => by
    show (agents [wt a]).any _ = _
    have := agents_asked sh [a]
    rw [hbt]
    simpa [bitsOf] using this
  rwa [e] at this
theorem keep_of {vs : List Value} {as bs : List (List Bool)} (h : Strs vs (as.map wt)) : Strs (vs.filter (keepP (bs.map wt))) ((as.filter fun a => !(bs.any (· == a))).map wt) := by
  have := strs_filter (pv := keepP (bs.map wt)) (q := fun x => !((bs.map wt).any (· == x))) (fun _ _ => rfl) h
  rw [List.filter_map] at this
  have e : (as.filter ((fun x => !((bs.map wt).any (· == x))) ∘ wt)) = as.filter fun a => !(bs.any (· == a)) := List.filter_congr fun a _ => by
    show (!((bs.map wt).any (· == wt a))) = _
    rw [any_wt]
  rwa [e] at this
theorem lacks_own' {t w : List Bool} (hw : w ∈ lacks t) : (((lacks t).filter fun a => !([w].any (· == a))).any fun a => isIn a w) = false := by
  have e : ((lacks t).filter fun a => !([w].any (· == a))) = (lacks t).filter fun a => !(a == w) := List.filter_congr fun a _ => by
    congr 1
    refine bool_iff ?_
    rw [any_beq, List.mem_singleton, beq_iff_eq]
  rw [e]; exact lacks_own hw
theorem own_word {t w : List Bool} (hw : w ∈ lacks t) : (agents (((lacks t).filter fun a => !([w].any (· == a))).map wt)).any (hits (wt w)) = false := by
  rw [agents_word2]; exact lacks_own' hw
theorem wt_short {as : List (List Bool)} (h : ∀ a ∈ as, a.length ≤ 1000) : ∀ x ∈ as.map wt, x.length ≤ 1000 := fun x hx => by
  obtain ⟨a, ha, e⟩ := List.mem_map.mp hx
  rw [← e, wt_len]; exact h a ha
/-- the names in the loops that read the text back -/
abbrev mapS (m₀ : Str → Option Value) (a : Value) (u v : Option Value) : Str → Option Value := fun y => if y = Str.ofString "name" then some a else if y = Str.ofString "step" then u else if y = Str.ofString "more" then v else m₀ y
theorem mapS_start (m₀ : Str → Option Value) {a : Value} (h : m₀ (Str.ofString "name") = some a) : m₀ = mapS m₀ a (m₀ (Str.ofString "step")) (m₀ (Str.ofString "more")) := by
  funext y
  show m₀ y = if y = Str.ofString "name" then some a else if y = Str.ofString "step" then m₀ (Str.ofString "step") else if y = Str.ofString "more" then m₀ (Str.ofString "more") else m₀ y
  by_cases e1 : y = Str.ofString "name"
  · rw [if_pos e1, e1, h]
  · rw [if_neg e1]
    by_cases e2 : y = Str.ofString "step"
    · rw [if_pos e2, e2]
    · rw [if_neg e2]
      by_cases e3 : y = Str.ofString "more"
      · rw [if_pos e3, e3]
      · rw [if_neg e3]
def JS (f : List Bool → List Bool) (x₀ : List Bool) (m₀ : Str → Option Value) (rest : List (Addr × Obj)) (i : Nat) (m : Str → Option Value) (news : List (Addr × Obj)) : Prop :=
  ∃ (t : Tok) (u v : Option Value), m = mapS m₀ (.str (wt (iter f i x₀)) t) u v ∧ news = rest
theorem mapS_end {m₀ : Str → Option Value} {a a' : Value} {u v u' v' : Option Value} :
    (fun y => if y = Str.ofString "name" then some a' else if y = Str.ofString "more" then v' else if y = Str.ofString "step" then u' else mapS m₀ a u v y) = mapS m₀ a' u' v' := by
  funext y
  show _ = if y = Str.ofString "name" then some a' else if y = Str.ofString "step" then u' else if y = Str.ofString "more" then v' else m₀ y
  by_cases h1 : y = Str.ofString "name"
  · subst h1; rw [if_pos rfl, if_pos rfl]
  · rw [if_neg h1, if_neg h1]
    by_cases h2 : y = Str.ofString "more"
    · subst h2; rw [if_pos rfl, if_neg (by decide), if_pos rfl]
    · rw [if_neg h2]
      by_cases h3 : y = Str.ofString "step"
      · rw [if_pos h3, if_pos h3]
      · rw [if_neg h3, if_neg h3, if_neg h2]
        show (if y = Str.ofString "name" then some a else if y = Str.ofString "step" then u else if y = Str.ofString "more" then v else m₀ y) = _
        rw [if_neg h1, if_neg h3, if_neg h2]
theorem pick2 {h₀ h : Heap} {L : Addr} {a b c d e f g i j : Addr × Obj} (N : News h₀ L h [a, b, c, d, e, f, g, i, j]) : News h₀ L h [a, b, c, e, g, i, j] := news_sub N fun p hp => by
  simp only [List.mem_cons, List.not_mem_nil, or_false] at hp ⊢
  rcases hp with h | h | h | h | h | h | h <;> simp [h]
theorem ask_wt (bt a : List Bool) : askP (agents ((lacks bt).map wt)) (wt a) = !isIn a bt := by
  show (agents ((lacks bt).map wt)).any (hits (asked (wt a))) = _
  rw [agents_asked2, lacks_any]
theorem left_of {vs : List Value} {cs : List (List Bool)} (bt : List Bool) (h : Strs vs (cs.map wt)) : Strs (vs.filter (keepP ((cs.map wt).filter (askP (agents ((lacks bt).map wt)))))) ((cs.filter fun a => isIn a bt).map wt) := by
  have e : (cs.map wt).filter (askP (agents ((lacks bt).map wt))) = (cs.filter fun a => !isIn a bt).map wt := by
    rw [List.filter_map]
    congr 1
    exact List.filter_congr fun a _ => ask_wt bt a
  rw [e]
  have := keep_of (bs := cs.filter fun a => !isIn a bt) h
  rw [filt_not] at this
  simpa using this
theorem two_wt {x y : List Bool} {t u : Tok} : Strs [.str (wt x) t, .str (wt y) u] ([x, y].map wt) := .cons _ _ (.cons _ _ .nil)
theorem let_a : Str.ofString "a" = wt [false] := by decide
theorem let_b : Str.ofString "b" = wt [true] := by decide
/-- what is left of two names -/
theorem left_two {vs : List Value} {x y : List Bool} {bt : List Bool} (h : Strs vs (([x, y].filter fun a => isIn a bt).map wt)) :
    (isIn x bt = true ∧ ∃ t r, vs = .str (wt x) t :: r ∧ r.length ≤ 1) ∨ (isIn x bt = false ∧ isIn y bt = true ∧ ∃ t, vs = [.str (wt y) t]) ∨ (isIn x bt = false ∧ isIn y bt = false ∧ vs = []) := by
  cases hx : isIn x bt with
  | true =>
    left
    rw [List.filter_cons_of_pos (p := fun a => isIn a bt) hx, List.map_cons] at h
    cases h with
    | cons _ t h =>
      refine ⟨rfl, t, _, rfl, ?_⟩
      rw [strs_length h, List.length_map]
      exact List.length_filter_le _ _
  | false =>
    rw [List.filter_cons_of_neg (p := fun a => isIn a bt) (by simp [hx])] at h
    cases hy : isIn y bt with
    | true =>
      rw [List.filter_cons_of_pos (p := fun a => isIn a bt) hy] at h
      right; left
      cases h with
      | cons _ t h => cases h; exact ⟨rfl, rfl, t, rfl⟩
    | false =>
      rw [List.filter_cons_of_neg (p := fun a => isIn a bt) (by simp [hy])] at h
      right; right
      cases h; exact ⟨rfl, rfl, rfl⟩
theorem left_n {w : World} {loose : List Str} {mean : ExcName → Option Value} {mg mb : Str → Option Value}
  {dp un : Nat} {gd : Option (List Code)} {cn : Str} {cs : Scope} {a : Addr} {ccd : Value} {cl : List (Str × Addr)} {outer : List Env} {A₀ : Around} {base h₀ : Heap} {L : Addr} {m : Str → Option Value} {s : Shared} {Q E : Value → Shared → Prop}
  {one d l nl : Addr} {es : List DictEntry} {n : Nat} {sl : Array (Option Value)} {avs vs : List Value} {bt : List Bool} {cs' : List (List Bool)}
  (B : Below A₀ base outer h₀) (F : Fr h₀ L s.heap m) (X : (hd.heap_39 w.params).In h₀) (T : Top hd.view_39 loose mean mg mb h₀) (hk : cs.kind = .function) (hdp : dp + 16 < recursionLimit) (hun : un + 128 < cLine)
  (I : InstAt s.heap one ⟨.ref 59, some d, .plain, sl⟩ 59 (some (dictOf es n)))
  (he : getL "useragents" es = some (some (.ref l))) (he2 : getL "applies_to" es = some none)
  (hla : s.heap.IsList l avs.toArray) (hsa : Strs avs (agents ((lacks bt).map wt))) (hbt : bt.length ≤ 500)
  (hl : s.heap.IsList nl vs.toArray) (hs : Strs vs (cs'.map wt)) (hxs : ∀ a ∈ cs', a.length ≤ 1000) (hsz : vs.length ≤ 100000)
  (hret : ∀ (D : Addr) (zs : List Value) (c : Nat) (h' : Heap) (tk' : Nat), Up (L :: outer.filterMap (·.frame)) s.heap h' → h'.get? D = some (lstObj zs.toArray c) → Strs zs ((cs'.filter fun a => isIn a bt).map wt) → s.heap.get? D = none → Q (.ref D) { s with heap := h', toks := tk' }) :
  wpAny (model Challenge.rw_ij0195_01.row.prog w) (ktrTop dp un gd cn cs L a ccd cl outer) (call (.ref 117) [.ref one, .ref nl]) Q E s :=
  left_c B F X T hk hdp hun I he he2 hla hsa (agents_len fun a ha => Nat.le_trans (lac_mem.mp ha).2.1 (by omega)) hl hs (wt_short hxs) hsz fun D c h' tk' hU hD hn => hret D _ c h' tk' hU hD (left_of bt hs) hn
theorem two_all {P : List Bool → Prop} {x y : List Bool} (hx : P x) (hy : P y) : ∀ a ∈ [x, y], P a := fun a ha => by
  simp only [List.mem_cons, List.not_mem_nil, or_false] at ha
  rcases ha with rfl | rfl
  · exact hx
  · exact hy
theorem snoc_len {x : List Bool} {b : Bool} (h : x.length ≤ 900) : (x ++ [b]).length ≤ 1000 := by rw [List.length_append, List.length_singleton]; omega
theorem stepR_1 {bt nm : List Bool} (h : isIn (nm ++ [false]) bt = true) : stepR bt nm = nm ++ [false] := by unfold stepR; rw [if_pos h]
theorem stepR_2 {bt nm : List Bool} (h : isIn (nm ++ [false]) bt = false) (h2 : isIn (nm ++ [true]) bt = true) : stepR bt nm = nm ++ [true] := by unfold stepR; rw [if_neg (by rw [h]; decide), if_pos h2]
theorem stepR_3 {bt nm : List Bool} (h : isIn (nm ++ [false]) bt = false) (h2 : isIn (nm ++ [true]) bt = false) : stepR bt nm = nm := by unfold stepR; rw [if_neg (by rw [h]; decide), if_neg (by rw [h2]; decide)]
theorem stepL_1 {bt nm : List Bool} (h : isIn (false :: nm) bt = true) : stepL bt nm = false :: nm := by unfold stepL; rw [if_pos h]
theorem stepL_2 {bt nm : List Bool} (h : isIn (false :: nm) bt = false) (h2 : isIn (true :: nm) bt = true) : stepL bt nm = true :: nm := by unfold stepL; rw [if_neg (by rw [h]; decide), if_pos h2]
theorem stepL_3 {bt nm : List Bool} (h : isIn (false :: nm) bt = false) (h2 : isIn (true :: nm) bt = false) : stepL bt nm = nm := by unfold stepL; rw [if_neg (by rw [h]; decide), if_neg (by rw [h2]; decide)]
theorem iter_step {f : List Bool → List Bool} {i : Nat} {x₀ nm z : List Bool} (h : nm = iter f i x₀) (e : f nm = z) : iter f (i + 1) x₀ = z := by rw [← e, h]; rfl
theorem mapS_iter {m₀ : Str → Option Value} {a : Value} {u v u' v' : Option Value} {z z' : List Bool} {t : Tok} (e : z' = z) :
    (fun y => if y = Str.ofString "name" then some (.str (wt z) t) else if y = Str.ofString "more" then v' else if y = Str.ofString "step" then u' else mapS m₀ a u v y) = mapS m₀ (.str (wt z') t) u' v' := by
  rw [e]; exact mapS_end
theorem cons_len {x : List Bool} {b : Bool} (h : x.length ≤ 900) : (b :: x).length ≤ 1000 := by rw [List.length_cons]; omega
section
variable {prog : Program} {w : World} {A : Around} {E : Value → Shared → Prop} {s : Shared} {h₀ h₁ : Heap} {L : Addr} {m : Str → Option Value} {news : List (Addr × Obj)} {x : Str} {t : Tok} {value slice : PySem.Expr} {Q : Value → Shared → Prop}
theorem slice_keep_ss {i j : Int} {ui uj : Tok} (hF : Fr h₀ L s.heap m) (hN : News h₀ L s.heap news) (hE : InElt h₁ s.heap) (h : ∀ h' t' k, Fr h₀ L h' m → News h₀ L h' news → InElt h₁ h' → (Txt.slice x (some i) (some j)).length ≤ x.length → Q (.str (Txt.slice x (some i) (some j)) t') { s with heap := h', toks := k })
    (hs : subscripted slice false (.str x t) (.ref s.heap.objs.size) = operate [.ref s.heap.objs.size, .str x t] (getItem (.str x t) (.ref s.heap.objs.size)) := by with_unfolding_all rfl)
    (ht : ∀ r, letTemporaryGo value (.str x t) r = pure () := by intro _; with_unfolding_all rfl) (hsz : x.length ≤ sizeLine := by size_fits) :
    wpAny (model prog w) A (subscriptTail value slice (.str x t) (.ref s.heap.objs.size)) Q E { s with heap := s.heap.push { cls := .type "slice", data := .fields #[.int i ui, .int j uj, .none] } } :=
  tail_of_ItemOn (SBH.sliceItem_ss kept_elt ⟨⟨hF, hN⟩, hE⟩ (fun h' t' k a => h h' t' k a.1.1 a.1.2 a.2 (Txt.slice_le _ _ _)) hsz) hs ht
end
def PieceEl (x : Str) (i : Int) (u z : Value) : Prop := ∃ (k : Int) (t t' : Tok), u = .int k t ∧ z = .str (Txt.slice x (some i) (some k)) t'
def PieceRow (bt : List Bool) (v : Value) (ws : List Value) : Prop := ∃ (i : Nat) (t : Tok), v = .int (0 + (i : Int) * 1) t ∧ i ≤ bt.length ∧ Strs ws (((List.range (bt.length + 1 - i)).map fun k => (bt.drop i).take k).map wt)
theorem paired_snoc {α β : Type} {F : α → β → Prop} {a : α} : ∀ {as : List α} {ws : List β}, Paired F (as ++ [a]) ws → ∃ ws' z, ws = ws' ++ [z] ∧ Paired F as ws' ∧ F a z
  | [], _, .cons h .nil => ⟨[], _, rfl, .nil, h⟩
  | _ :: as, _, .cons h hP => by
    obtain ⟨ws', z, rfl, h1, h2⟩ := paired_snoc hP
    exact ⟨_ :: ws', z, rfl, .cons h h1, h2⟩
theorem piece_row {bt : List Bool} {i : Nat} (hi : i ≤ bt.length) : ∀ {n : Nat} {vs2 ws : List Value}, vs2.length = n → n ≤ bt.length + 1 - i → (∀ (j : Nat) (u : Value), vs2[j]? = some u → j < bt.length + 1 - i ∧ ∃ t, u = .int ((0 + (i : Int) * 1) + (j : Int) * 1) t) →
    Paired (PieceEl (wt bt) (0 + (i : Int) * 1)) vs2 ws → Strs ws (((List.range n).map fun k => (bt.drop i).take k).map wt) := by
  intro n
  induction n with
  | zero =>
    intro vs2 ws hl _ _ hP
    have := List.length_eq_zero_iff.mp hl
    subst this
    cases hP; exact .nil
  | succ n ih =>
    intro vs2 ws hl hn hu hP
    have hne : vs2 ≠ [] := by rintro rfl; simp at hl
    have e := List.dropLast_concat_getLast hne
    rw [← e] at hP
    have hd : vs2.dropLast.length = n := by rw [List.length_dropLast, hl]; rfl
    obtain ⟨ws', z, rfl, hP', hz⟩ : ∃ ws' z, ws = ws' ++ [z] ∧ Paired (PieceEl (wt bt) (0 + (i : Int) * 1)) vs2.dropLast ws' ∧ PieceEl (wt bt) (0 + (i : Int) * 1) (vs2.getLast hne) z := paired_snoc hP
    have h1 := ih hd (by omega) (fun j u hj => by
      have : j < vs2.dropLast.length := (List.getElem?_eq_some_iff.mp hj).1
      refine hu j u ?_
      rw [← hj, List.getElem?_dropLast, if_pos (by omega)]) hP'
    obtain ⟨_, t, hlast⟩ := hu n (vs2.getLast hne) (by rw [List.getLast_eq_getElem, ← List.getElem?_eq_getElem]; congr 1; omega)
    obtain ⟨k, t1, t2, e1, rfl⟩ := hz
    rw [hlast] at e1
    have ek : k = ((0 + (i : Int) * 1) + (n : Int) * 1) := by injection e1 with a b; exact a.symm
    have ez : Txt.slice (wt bt) (some (0 + (i : Int) * 1)) (some k) = wt ((bt.drop i).take n) := by
      rw [ek, show (0 + (i : Int) * 1) = (i : Int) by omega, show ((i : Int) + (n : Int) * 1) = ((i + n : Nat) : Int) by omega, slice_ij (by omega) (by omega)]
      congr 2; omega
    rw [List.range_succ, List.map_append, List.map_append]
    rw [ez]
    exact strs_append h1 (.cons _ _ .nil)
theorem pieces_of {bt : List Bool} : ∀ {n : Nat} {vs : List Value} {wss : List (List Value)}, vs.length = n → (∀ (j : Nat) (v : Value), vs[j]? = some v → ∃ t, v = .int (0 + (j : Int) * 1) t) → Paired (PieceRow bt) vs wss →
    Strs wss.flatten (((List.range n).flatMap fun i => (List.range (bt.length + 1 - i)).map fun k => (bt.drop i).take k).map wt) := by
  intro n
  induction n with
  | zero =>
    intro vs wss hl _ hP
    have := List.length_eq_zero_iff.mp hl
    subst this
    cases hP; exact .nil
  | succ n ih =>
    intro vs wss hl hu hP
    have hne : vs ≠ [] := by rintro rfl; simp at hl
    have e := List.dropLast_concat_getLast hne
    rw [← e] at hP
    have hd : vs.dropLast.length = n := by rw [List.length_dropLast, hl]; rfl
    obtain ⟨ws', z, rfl, hP', hz⟩ : ∃ ws' z, wss = ws' ++ [z] ∧ Paired (PieceRow bt) vs.dropLast ws' ∧ PieceRow bt (vs.getLast hne) z := paired_snoc hP
    have h1 := ih hd (fun j u hj => by
      have : j < vs.dropLast.length := (List.getElem?_eq_some_iff.mp hj).1
      refine hu j u ?_
      rw [← hj, List.getElem?_dropLast, if_pos (by omega)]) hP'
    obtain ⟨t, hlast⟩ := hu n (vs.getLast hne) (by rw [List.getLast_eq_getElem, ← List.getElem?_eq_getElem]; congr 1; omega)
    obtain ⟨k, t1, e1, _, hs⟩ := hz
    rw [hlast] at e1
    have ek : k = n := by injection e1 with a b; omega
    subst ek
    rw [List.range_succ, List.flatMap_append, List.map_append, List.flatten_append]
    refine strs_append h1 ?_
    simpa using hs
theorem size_zero {n : Nat} : Builtin.Range.rangeSize 0 ((n : Int) + 1) 1 = ((n + 1 : Nat) : Int) := size_one (a := 0) (b := n + 1) (Nat.zero_le _)
theorem size_in {i n : Nat} (h : i ≤ n) : Builtin.Range.rangeSize (0 + (i : Int) * 1) ((n : Int) + 1) 1 = ((n + 1 - i : Nat) : Int) := by
  rw [show (0 + (i : Int) * 1) = (i : Int) by omega]
  exact size_one (a := i) (b := n + 1) (by omega)
theorem pick3 {h₀ h : Heap} {L : Addr} {a b c d e f g i j k x : Addr × Obj} (N : News h₀ L h [a, b, c, d, e, f, g, i, j, k, x]) : News h₀ L h [x, a, d, e, f, g] := news_sub N fun p hp => by
  simp only [List.mem_cons, List.not_mem_nil, or_false] at hp ⊢
  rcases hp with h | h | h | h | h | h <;> simp [h]
theorem data_ne {h₀ h : Heap} {L : Addr} {news : List (Addr × Obj)} {a x : Addr × Obj} {v : Option Value} (N : News h₀ L h news) (ha : a ∈ news) (hx : x ∈ news) (hv : x.2.data = .cell v) (h : ∀ v, a.2.data ≠ .cell v) : @Ne Nat a.1 x.1 := fun e => by
  have h1 := (N _ ha).1
  have h2 := (N _ hx).1
  rw [show a.1 = x.1 from e, h2] at h1
  exact h v (Option.some.inj h1 ▸ hv)
theorem pick3_ne {h₀ h : Heap} {L : Addr} {a b c d e f g i j k x : Addr × Obj} {v : Option Value} (N : News h₀ L h [a, b, c, d, e, f, g, i, j, k, x]) (hv : x.2.data = .cell v) (h1 : ∀ v, a.2.data ≠ .cell v) (h2 : ∀ v, d.2.data ≠ .cell v) (h3 : ∀ v, e.2.data ≠ .cell v) (h4 : ∀ v, f.2.data ≠ .cell v) (h5 : ∀ v, g.2.data ≠ .cell v) :
    ∀ p ∈ [a, d, e, f, g], @Ne Nat p.1 x.1 := fun p hp => by
  have hx : x ∈ [a, b, c, d, e, f, g, i, j, k, x] := by simp
  simp only [List.mem_cons, List.not_mem_nil, or_false] at hp
  rcases hp with rfl | rfl | rfl | rfl | rfl
  · exact data_ne N (by simp) hx hv h1
  · exact data_ne N (by simp) hx hv h2
  · exact data_ne N (by simp) hx hv h3
  · exact data_ne N (by simp) hx hv h4
  · exact data_ne N (by simp) hx hv h5
theorem word_ask (bt : List Bool) (qs : List (Bool × Bool)) : (agents ((lacks bt).map wt)).any (hits (st qs)) = !isIn (bitsOf qs) bt := by
  rw [agents_word, ← lacks_any]; rfl
theorem word_absurd {bt wb : List Bool} (h : ((!isIn wb bt) != !((pieces bt).map wt).any fun x => x == wt wb) = true) : False := by
  have e : (((pieces bt).map wt).any fun x => x == wt wb) = isIn wb bt := pieces_any bt wb
  rw [e] at h
  cases isIn wb bt <;> simp at h
end Mine
end
section
open PySem PySem.W PyProof.Rows PySem.Calls
set_option maxRecDepth 100000
namespace Mine
section
variable {prog : Program} {w : World} {A : Around} {E : Value → Shared → Prop} {s : Shared} {env : Env} {h₀ : Heap} {x : Str} {body : List Stmt} {Q : Flow → Shared → Prop}
/-- a for over a list that stands in the ledger: the turn stores its own name alone; J tells what the turns so far say -/
theorem iter_led {l : Addr} {vs : List Value} {m₀ : Str → Option Value} {news : List (Addr × Obj)} {ol : Obj} (J : Nat → Prop)
    (hh : A.handled = none) (F : Fr h₀ env.locals s.heap m₀) (N : News h₀ env.locals s.heap news) (hm : (l, ol) ∈ news) (hl : s.heap.IsList l vs.toArray) (hj : J 0)
    (turn : ∀ (iT : Nat) (vT : Value) (IT : Addr) (oT : Obj) (hT : Heap) (tkT : Nat) (hvT : vs[iT]? = some vT) (HJ : J iT) (hIT : ∀ p ∈ news, @LT.lt Nat _ p.1 IT) (FT : Fr h₀ env.locals hT (fun y => if y = x then some vT else m₀ y)) (NT : News h₀ env.locals hT ((IT, oT) :: news)),
      wpAny (model prog w) A (execs body env) (InvPost h₀ env.locals (fun m' => J (iT + 1) ∧ ∀ z, z ≠ x → m' z = m₀ z) ((IT, oT) :: news) { s with heap := hT, toks := tkT } Q) E { s with heap := hT, toks := tkT })
    (done : ∀ (u : Str → Option Value) (hT : Heap) (tkT : Nat) (HJ : J vs.length) (FT : Fr h₀ env.locals hT (fun z => if z = x then u z else m₀ z)) (NT : News h₀ env.locals hT news), Q .next { s with heap := hT, toks := tkT }) :
    wpAny (model prog w) A (pyIter (.ref l)) (fun it s₂ => LoopAtV prog w A h₀ env x body Q E it s₂) E s := by
  have hlt : l < s.heap.objs.size := Heap.lt_size (N _ hm).1
  have hne : l ≠ s.heap.objs.size := Nat.ne_of_lt hlt
  refine wpAny_pyIter_list hl ?_
  have W := Walks.list (prog := prog) (w := w) hh s.heap.objs.size l hne vs.toArray
  have hlen : vs.toArray.size = vs.length := by simp
  rw [hlen] at W
  let J' : Nat → (Str → Option Value) → List (Addr × Obj) → Prop := fun i m₁ news₁ => news₁ = news ∧ J i ∧ ∀ z, z ≠ x → m₁ z = m₀ z
  refine ⟨_, _, _, vs.length, _, _, m₀, news, J', rfl, W, ?_, ?_, ?_, ⟨⟨_, Heap.get?_push_size _ rfl, rfl, rfl⟩, hl.at fun o e => Heap.get?_push_of_some _ e⟩, F.push _, (fun p hp => ⟨Heap.get?_push_of_some _ (N p hp).1, (N p hp).2⟩), ⟨rfl, hj, fun _ _ => rfl⟩, ?_, ?_⟩
  · intro hq
    rcases List.mem_cons.mp hq with e | hq
    · exact absurd F.ns.lt (e ▸ Nat.lt_irrefl _)
    · exact (N _ hm).2.1 (List.mem_singleton.mp hq).symm
  · intro b hb
    rw [List.mem_singleton.mp hb]
    exact next_is_new F
  · intro p hp hI
    exact absurd (Heap.lt_size (N p hp).1) ((List.mem_singleton.mp hI) ▸ Nat.lt_irrefl _)
  · rintro i v m₁ news₁ s₁ own ⟨hh', tk', rfl⟩ hin hP ⟨rfl, hJ, hm₁⟩ hoff hown hget hall hst F₁ N₁
    have hv : vs[i]? = some v := by simpa using hP
    have e₁ : (fun y => if y = x then some v else m₁ y) = fun y => if y = x then some v else m₀ y := by
      funext z
      by_cases h1 : z = x
      · simp [h1]
      · simp only [if_neg h1]; exact hm₁ z h1
    rw [e₁] at F₁
    obtain ⟨⟨oI, hoI, _⟩, _⟩ := hst
    have hIo : (s.heap.objs.size, oI) ∈ own := hall _ (List.mem_cons_self ..) (by
      cases q : h₀.get? s.heap.objs.size with
      | none => rfl
      | some o => exact absurd (Heap.lt_size (F.keep _ _ q)) (Nat.lt_irrefl _)) _ hoI
    have N2 : News h₀ env.locals hh' ((s.heap.objs.size, oI) :: news₁) := fun p hp => by
      rcases List.mem_cons.mp hp with rfl | hp
      · exact N₁ _ (List.mem_append_left _ hIo)
      · exact N₁ _ (List.mem_append_right _ hp)
    have hIlt : ∀ p ∈ news₁, @LT.lt Nat _ p.1 s.heap.objs.size := fun p hp => Heap.lt_size (N p hp).1
    refine wpAny_mono (turn i v s.heap.objs.size oI hh' tk' hv hJ hIlt F₁ N2) (fun f s₂ p => ?_) fun _ _ e => e
    have own_sub : ∀ p ∈ own, p ∈ (s.heap.objs.size, oI) :: news₁ := fun p hp => by
      have h1 := hown p hp
      have h2 := hget p hp
      rcases List.mem_cons.mp h1 with e | h1
      · have : p = (s.heap.objs.size, oI) := by
          obtain ⟨a, b⟩ := p
          cases e
          rw [show hh'.get? s.heap.objs.size = some b from h2] at hoI
          cases hoI; rfl
        rw [this]; exact .head _
      · have e := List.mem_singleton.mp h1
        have h3 := (N₁ _ (List.mem_append_right _ hm)).1
        have h2' : hh'.get? l = some p.2 := e ▸ h2
        have : p = (l, ol) := Prod.ext e (Option.some.inj (h2'.symm.trans h3))
        rw [this]; exact .tail _ hm
    have fin : InvEnd h₀ env.locals (fun m' => J (i + 1) ∧ ∀ z, z ≠ x → m' z = m₀ z) ((s.heap.objs.size, oI) :: news₁) { s with heap := hh', toks := tk' } s₂ → LoopStepU h₀ env.locals [s.heap.objs.size] own (J' (i + 1)) { s with heap := hh', toks := tk' } .next s₂ := by
      rintro ⟨h', tk, m', news', e, F', N', hn, hm'⟩
      refine ⟨rfl, h', tk, m', news₁, e, F', fun p hp => N' p (hn p ?_), hoff, rfl, hm'⟩
      rcases List.mem_append.mp hp with q | q
      · exact own_sub p q
      · exact .tail _ q
    cases f with
    | ret v => exact .ret p
    | brk => exact .brk p
    | next => exact .next (fin p)
    | cont => exact .cont (fin p)
  · rintro h' tk m' news' F' N' _ ⟨rfl, hJ, hm'⟩
    refine done m' h' tk hJ ?_ N'
    have e : (fun z => if z = x then m' z else m₀ z) = m' := by
      funext z
      by_cases h1 : z = x
      · simp [h1]
      · simp only [if_neg h1]; exact (hm' z h1).symm
    rw [e]; exact F'
end
end Mine
end
section
open PySem PySem.W PyProof.Rows PySem.Calls
set_option maxRecDepth 100000
set_option maxHeartbeats 0
namespace Mine
/-- what is to be shown of a for over a made list whose target stands in a cell; the turns change the name z alone -/
def ForCell (prog : Program) (w : World) (A : Around) (env : Env) (x z : Str) (body : List Stmt) (K : Addr) (Q : Flow → Shared → Prop) (E : Value → Shared → Prop) (xv : Value) (s₁ : Shared) : Prop :=
  ∃ (h₀ : Heap) (l : Addr) (vs : List Value) (ol oK : Obj) (rest : List (Addr × Obj)) (m₀ : Str → Option Value) (vK : Option Value),
    xv = .ref l ∧ Fr h₀ env.locals s₁.heap m₀ ∧ News h₀ env.locals s₁.heap ((K, oK) :: rest) ∧ oK.data = .cell vK ∧ (∀ p ∈ rest, @Ne Nat p.1 K) ∧ (l, ol) ∈ rest ∧ s₁.heap.IsList l vs.toArray ∧
    (∀ (iT : Nat) (vT : Value) (IT : Addr) (oI oT : Obj) (uT : Option Value) (hT : Heap) (tkT : Nat) (hvT : vs[iT]? = some vT) (hoT : oT.data = .cell (some vT)) (FT : Fr h₀ env.locals hT (fun y => if y = z then uT else m₀ y)) (NT : News h₀ env.locals hT ((IT, oI) :: (K, oT) :: rest)) (hIT : ∀ p ∈ (K, oK) :: rest, @LT.lt Nat _ p.1 IT),
      wpAny (model prog w) A (execs body env) (InvPost h₀ env.locals (fun m' => ∀ y, y ≠ z → m' y = m₀ y) ((IT, oI) :: (K, oT) :: rest) { s₁ with heap := hT, toks := tkT } Q) E { s₁ with heap := hT, toks := tkT }) ∧
    (∀ (uT : Option Value) (hT : Heap) (tkT : Nat) (FT : Fr h₀ env.locals hT (fun y => if y = z then uT else m₀ y)) (NT : News h₀ env.locals hT rest), Q .next { s₁ with heap := hT, toks := tkT })
section
variable {prog : Program} {w : World} {A : Around} {E : Value → Shared → Prop} {s : Shared} {env : Env}
theorem map_at (z : Str) (m : Str → Option Value) : m = fun y => if y = z then m z else m y := by
  funext y
  by_cases h : y = z
  · rw [if_pos h, h]
  · rw [if_neg h]
theorem for_cell {x z : Str} {px pos : Pos} {iter : Expr} {body : List Stmt} {K : Addr} {Q : Flow → Shared → Prop}
    (hh : A.handled = none) (hkf : env.scope.kind = .function) (hx : env.kindOf x = some .cell) (hcl : env.cells.lookup x = some K)
    (h : wpAny (model prog w) A (eval iter env) (ForCell prog w A env x z body K Q E) E s)
    (hs : ∀ x, foldedSetIterable iter env x = pure x := by intro _; rfl)
    (hE : PassesOwn (model prog w) A env E := by passes_own) :
    wpAny (model prog w) A (exec (.For (.Name x px) iter body [] pos) env) Q E s := by
  refine wpAny_For (wpAny_mono h (fun xv s₁ h₁ => ?_) fun _ _ e => e) hs
  obtain ⟨h₀, l, vs, ol, oK, rest, m₀, vK, rfl, F, N, hoK, hnK, hm, hl, turn, done⟩ := h₁
  have hlt : l < s₁.heap.objs.size := Heap.lt_size (N _ (.tail _ hm)).1
  refine wpAny_pyIter_list hl ?_
  have W := Walks.list (prog := prog) (w := w) hh s₁.heap.objs.size l (Nat.ne_of_lt hlt) vs.toArray
  have hlen : vs.toArray.size = vs.length := by simp
  rw [hlen] at W
  generalize hIe : s₁.heap.objs.size = I at W hlt ⊢
  have hIlt : ∀ p ∈ (K, oK) :: rest, @LT.lt Nat _ p.1 I := fun p hp => by rw [← hIe]; exact Heap.lt_size (N p hp).1
  have hI0 : h₀.get? I = none := by
    cases q : h₀.get? I with
    | none => rfl
    | some o =>
      have := Heap.lt_size (F.keep _ _ q)
      rw [hIe] at this
      exact absurd this (Nat.lt_irrefl _)
  have hIL : I ≠ env.locals := by
    have := F.ns.lt
    rw [hIe] at this
    exact Ne.symm (Nat.ne_of_lt this)
  have N0 : ∀ ob, News h₀ env.locals (s₁.heap.push ob) ((K, oK) :: rest) := fun ob p hp => ⟨Heap.get?_push_of_some _ (N p hp).1, (N p hp).2⟩
  refine codeAny_forLoop
    (fun k s' => ∃ (h' : Heap) (tk i : Nat) (oK' : Obj) (vc u : Option Value), s' = { s₁ with heap := h', toks := tk } ∧ (h'.IsListIter I l i ∧ h'.IsList l vs.toArray) ∧ Fr h₀ env.locals h' (fun y => if y = z then u else m₀ y) ∧ News h₀ env.locals h' ((K, oK') :: rest) ∧ oK'.data = .cell vc ∧ i ≤ vs.length ∧ k = vs.length + 1 - i) ?_ (vs.length + 1)
    ⟨_, _, 0, oK, vK, m₀ z, rfl, ⟨⟨_, by rw [← hIe]; exact Heap.get?_push_size _ rfl, rfl, rfl⟩, hl.at fun o e => Heap.get?_push_of_some _ e⟩, map_at z m₀ ▸ F.push _, N0 _, hoK, Nat.zero_le _, rfl⟩
  rintro k s' ⟨h', tk, i, oK', vc, u, rfl, hst', F', N', hoK', hi, rfl⟩
  have hwr : ∀ b o, b ≠ I → ∀ h₁ : Heap, (∀ b o, b ∉ [I] → h'.get? b = some o → h₁.get? b = some o) → h'.get? b = some o → h₁.get? b = some o := fun b o hb h₁ hk e => hk b o (fun hq => hb (List.mem_singleton.mp hq)) e
  have next : ∀ h₁ : Heap, (∀ b o, b ∉ [I] → h'.get? b = some o → h₁.get? b = some o) → Fr h₀ env.locals h₁ (fun y => if y = z then u else m₀ y) ∧ News h₀ env.locals h₁ ((K, oK') :: rest) := fun h₁ hk₁ =>
    ⟨⟨F'.ns.at' fun o e => hwr _ o (Ne.symm hIL) h₁ hk₁ e, fun b o e => hwr b o (fun q => by rw [q, hI0] at e; cases e) h₁ hk₁ (F'.keep b o e), F'.above⟩, fun p hp => ⟨hwr _ _ (Nat.ne_of_lt (by
      rcases List.mem_cons.mp hp with rfl | hp
      · exact hIlt (K, oK) (.head _)
      · exact hIlt p (.tail _ hp))) h₁ hk₁ (N' p hp).1, (N' p hp).2⟩⟩
  by_cases hlti : i < vs.length
  · refine W.item i _ _ _ hlti hst' fun v h₁ tk₁ hP hst₁ hk₁ => ?_
    have hv : vs[i]? = some v := by simpa using hP
    obtain ⟨F₁, N₁⟩ := next h₁ hk₁
    refine wpAny_assign_Name (wpAny_storeName_cell hkf hx hcl ⟨oK', (N₁ _ (.head _)).1, hoK'⟩ fun h₂ hv₂ hs₂ => ?_)
    obtain ⟨oT, hoT, hdT⟩ := hv₂
    have hKN := (N₁ _ (.head _)).2
    have F₂ : Fr h₀ env.locals h₂ (fun y => if y = z then u else m₀ y) := F₁.change hs₂ hKN.1 hKN.2
    have N₂ : News h₀ env.locals h₂ ((K, oT) :: rest) := fun p hp => by
      rcases List.mem_cons.mp hp with rfl | hp
      · exact ⟨hoT, hKN⟩
      · exact ⟨hs₂.extBut _ _ (hnK p hp) (N₁ p (.tail _ hp)).1, (N₁ p (.tail _ hp)).2⟩
    have hKI : K ≠ I := Nat.ne_of_lt (hIlt (K, oK) (.head _))
    obtain ⟨⟨oI, hoI, hI1, hI2⟩, hl₁⟩ := hst₁
    have hoI₂ : h₂.get? I = some oI := hs₂.extBut _ _ (Ne.symm hKI) hoI
    have N₃ : News h₀ env.locals h₂ ((I, oI) :: (K, oT) :: rest) := fun p hp => by
      rcases List.mem_cons.mp hp with rfl | hp
      · exact ⟨hoI₂, hIL, hI0⟩
      · exact N₂ p hp
    refine wpAny_mono (wpAny_passesOwn hE (turn i v I oI oT u h₂ tk₁ hv hdT F₂ N₃ hIlt)) (fun f s₃ h₃ => ?_) fun _ _ e => e
    have fin : InvEnd h₀ env.locals (fun m' => ∀ y, y ≠ z → m' y = m₀ y) ((I, oI) :: (K, oT) :: rest) { s₁ with heap := h₂, toks := tk₁ } s₃ → ∃ k', k' < vs.length + 1 - i ∧ ∃ (h' : Heap) (tk j : Nat) (oK' : Obj) (vc u : Option Value), s₃ = { s₁ with heap := h', toks := tk } ∧ (h'.IsListIter I l j ∧ h'.IsList l vs.toArray) ∧ Fr h₀ env.locals h' (fun y => if y = z then u else m₀ y) ∧ News h₀ env.locals h' ((K, oK') :: rest) ∧ oK'.data = .cell vc ∧ j ≤ vs.length ∧ k' = vs.length + 1 - j := by
      rintro ⟨h₄, tk₄, m₄, news₄, e, F₄, N₄, hn₄, hm₄⟩
      have em : m₄ = fun y => if y = z then m₄ z else m₀ y := by
        funext y
        by_cases hy : y = z
        · rw [if_pos hy, hy]
        · rw [if_neg hy]; exact hm₄ y hy
      have hl₄ := (N₄ (l, ol) (hn₄ _ (.tail _ (.tail _ hm)))).1
      have hl₂ := (N₂ (l, ol) (.tail _ hm)).1
      have hl₁' := (N₁ (l, ol) (.tail _ hm)).1
      refine ⟨_, by omega, h₄, tk₄, i + 1, oT, some v, m₄ z, e, ⟨⟨oI, (N₄ (I, oI) (hn₄ _ (.head _))).1, hI1, hI2⟩, hl₁.at fun o eo => ?_⟩, em ▸ F₄, fun p hp => N₄ p (hn₄ p (.tail _ hp)), hdT, hlti, rfl⟩
      rw [hl₁'] at eo; cases eo
      exact hl₄
    cases f with
    | ret v => exact h₃
    | brk => exact h₃
    | cont => exact fin h₃
    | next => exact fin h₃
  · have hin : i = vs.length := by omega
    subst hin
    refine W.done _ _ _ hst' fun h₁ tk₁ hk₁ => wpAny_execs_nil ?_
    obtain ⟨F₁, N₁⟩ := next h₁ hk₁
    exact done u h₁ tk₁ F₁ fun p hp => N₁ p (.tail _ hp)
end
end Mine
end
section
open PySem PySem.W PyProof.Rows PySem.Calls
set_option maxRecDepth 100000
set_option maxHeartbeats 0
namespace Mine
theorem bindL_one {k : Str → Option NameKind} {n : Str} {v : Value} (h : k n = some .local) : bindL k [(n, v)] (fun _ => none) = fun y => if y = n then some v else none := by
  unfold bindL
  rw [if_pos h]
  rfl
theorem fr_one {g h : Heap} {L : Addr} {k : Str → Option NameKind} {n : Str} {v : Value} (F : Fr g L h (bindL k [(n, v)] fun _ => none)) (hk : k n = some .local) : Fr g L h (fun y => if y = n then some v else none) := by
  rw [bindL_one hk] at F; exact F
end Mine
end
section
open PySem PySem.W PyProof.Rows PySem.Calls
set_option maxRecDepth 100000
set_option maxHeartbeats 0
namespace Mine
local macro_rules | `(tactic| k_room) => `(tactic| ktr_room)
local macro_rules | `(tactic| walk_at "exec Assign cons ListComp") => `(tactic| (k_here; refine hold_ ?_))
local macro_rules | `(tactic| walk_at "eval ListComp") => `(tactic| (k_here; refine hold_ ?_))
local macro_rules | `(tactic| walk_at "pyIter ref") => `(tactic| (k_here; refine hold_ ?_))
local macro_rules | `(tactic| walk_at "call ref") => `(tactic| (k_here; refine hold_ ?_))
local macro_rules | `(tactic| walk_at "call builtin:str.lower") => `(tactic| ((with_reducible show wpAny _ _ (call (Value.builtin "str.lower") [Value.str (st _) _]) _ _ _); refine lower_q (by assumption) (by omega) ?_))
local macro_rules | `(tactic| walk_at "call builtin:len") => `(tactic| ((with_reducible show wpAny _ _ (call (Value.builtin "len") [Value.str (wt _) _]) _ _ _); refine len_wt (by omega) ?_; intro _ _))
local macro_rules | `(tactic| walk_at "subscriptTail Name Slice str ref") => `(tactic| ((with_reducible show wpAny _ _ (subscriptTail _ (Expr.Slice (some _) none none _) _ _) _ _ _); (with_reducible rename InElt _ _ => kE'); (refine slice_keep_sn (s := ⟨_, _, _, _, _⟩) (by assumption) (by assumption) kE' ?_); clear kE'; intro _ _ _ F' N' kE' _))
local macro_rules | `(tactic| walk_at "newList") => `(tactic| (k_here; (with_reducible rename InElt _ _ => kE'); k_dflt (refine' newList_E ?k1 ?k2 kE' ?_; (case k1 => k_asm); (case k2 => k_asm); k_whole); clear kE'; intro l' h' F' N' l1 kE'; (try k_lt l1); (try k_sweep)))
local macro_rules | `(tactic| k_get) => `(tactic| assumption)
local macro_rules | `(tactic| walk_at "subscriptTail Name Slice str ref") => `(tactic| ((with_reducible show wpAny _ _ (subscriptTail _ (Expr.Slice (some _) (some _) none _) _ _) _ _ _); (with_reducible rename InElt _ _ => kE'); (refine slice_keep_ss (s := ⟨_, _, _, _, _⟩) (by assumption) (by assumption) kE' ?_); clear kE'; intro _ _ _ F' N' kE' _))
noncomputable def ck1 : (P : Prop) ×' (Q : Prop) ×' (PLift P → PLift Q → PySem.Challenge.rw_ij0195_01.Holds) := by
  refine' ⟨_, _, fun hP hQ => ?main⟩
  (case main =>
      refine Mine.hd ?_
      w_strict (
       k_go0; (all_goals try k_fold)
       with_reducible rename CellsAre _ _ _ => X0
       clear X0
       with_reducible rename PySem.W.Dflts _ _ _ _ _ _ => D0
       clear D0
       with_reducible rename Heap.CodeRec _ _ _ => D0
       clear D0
       with_reducible rename Fr _ _ _ _ => F0
       have F1 := fr_one (n := PySem.Str.ofString "script") F0 (by rfl)
       clear F0
       (with_reducible rename _ = PySem.Data.cell _ => d0; replace d0 : _ = PySem.Data.cell none := d0; have d1 := d0; clear d0)
       (with_reducible rename _ = PySem.Data.cell (bindC _ _ _ _) => d0; replace d0 : _ = PySem.Data.cell none := d0; have d2 := d0; clear d0)
       (with_reducible rename _ = PySem.Data.cell (bindC _ _ _ _) => d0; replace d0 : _ = PySem.Data.cell none := d0; have d3 := d0; clear d0)
       (with_reducible rename _ = PySem.Data.cell (bindC _ _ _ _) => d0; replace d0 : _ = PySem.Data.cell none := d0; have d4 := d0; clear d0)
       k_steps
       refine of_hold ?_
       refine comp_at (by with_unfolding_all rfl) (by decide) (by rfl) (by decide) (by rfl) ?_
       k_steps
       with_reducible rename IntsAre _ (List.take 5 _) => hIa
       with_reducible rename List Int => ns
       with_reducible rename Below callerA _ _ _ => K0
       with_reducible rename News _ _ _ _ => N1
       with_reducible rename Fr _ _ _ _ => F1
       with_reducible rename IntsAre _ ns => hIs
       have hn5 : (List.take 5 ns).length ≤ 5 := List.length_take_le _ _
       refine ⟨_, _, _, _, _, _, fun _ => true, IsQ, src_list (vs := _) rfl (by is_list), ?hz, (by k_asm), (by k_asm), ?ht, ?he, ?hd⟩
       (case hz => rw [sizeLine_eq, hIa.length]; omega)
       (case ht => exact fun i v C oC m₂ s₃ E' hv hC hm F3 N3 hlt => wpAny_tests_nil ⟨rfl, _, _, rfl, fun b o e => e⟩)
       (case he =>
         intro i v C oC m₂ s₃ E' hv hp hC hm F3 N3 hlt
         obtain ⟨n, t, hx, e⟩ := ints_get hIa hv
         subst e
         k_steps
         all_goals first | exact is_q | exact ⟨_, _, rfl, fun b o e => e⟩)
       (case hd =>
         intro D h2 tk2 vs2 ys2 hlen2 hitems2 F2 N2 hD hDn hst hP
         rw [List.filter_eq_self.mpr (fun _ _ => rfl)] at hP
         obtain ⟨qs, hql, hqs⟩ := qs_of hP
         have hq5 : qs.length ≤ 5 := by rw [hql, hlen2, hIa.length]; omega
         have hDl := hD.isList
         clear F1 N1 hitems2 hP hst
         k_steps
         refine join_listC hDl hqs (by decide) (by rw [st_sum, List.length_map]; omega) fun t3 k3 => ?_
         rw [st_join]
         (try dsimp only)
         (try k_fold)
         k_steps
         rw [q_item]
         generalize q4 _ = q
         refine add_st (by rw [List.length_singleton]; omega) fun t4 k4 => ?_
         obtain ⟨sh, hsh⟩ : ∃ sh, sh = qs ++ [q] := ⟨_, rfl⟩
         have hsl : sh.length ≤ 6 ∧ 1 ≤ sh.length := by rw [hsh, List.length_append, List.length_singleton]; omega
         rw [← hsh]
         obtain ⟨bt, hbt⟩ : ∃ bt, bt = bitsOf sh := ⟨_, rfl⟩
         have hTl : bt.length ≤ 6 ∧ 1 ≤ bt.length := by rw [hbt]; unfold bitsOf; rw [List.length_map]; exact hsl
         clear hsh
         (try dsimp only)
         k_steps
         refine of_hold ?_
         with_reducible rename Fr _ _ _ _ => F8
         with_reducible rename News _ _ _ _ => N8
         have N9 := pick1 N8
         with_unfolding_all refine rng_loop (n := bt.length + 1) (JW bt _ _ _ _) _ (by rfl) (by assumption) (by simp) (by omega) F8 N9 (fun p hp => hp) ⟨_, _, _, _, _, _, _, _, _, mapW_start _, rfl, by assumption, .cons (wt []) _ .nil, .nil, by omega, by omega⟩ ?turn ?done
         all_goals clear F8 N8 N9
         (case turn =>
           (repeat (revert tk))
           (repeat (revert hTl))
           (repeat (revert hbt))
           (repeat (revert bt))
           (repeat (revert hsl))
           (repeat (revert sh))
           (repeat (revert k4))
           (repeat (revert t4))
           (repeat (revert q))
           (repeat (revert k3))
           (repeat (revert t3))
           (repeat (revert hDl))
           (repeat (revert hq5))
           (repeat (revert hqs))
           (repeat (revert hql))
           (repeat (revert qs))
           (repeat (revert hDn))
           (repeat (revert hD))
           (repeat (revert hlen2))
           (repeat (revert ys2))
           (repeat (revert vs2))
           (repeat (revert tk2))
           (repeat (revert h2))
           (repeat (revert D))
           (repeat (revert hn5))
           (repeat (revert hIa))
           (repeat (revert d4))
           (repeat (revert d3))
           (repeat (revert d2))
           (repeat (revert d1))
           (repeat (revert ek))
           (repeat (revert qk))
           (repeat (revert K0))
           (repeat (revert hIs))
           (repeat (revert ns))
           (repeat (rename_i zz; revert zz))
           exact hP.down)
         (case done =>
           (repeat (revert tk))
           (repeat (revert hTl))
           (repeat (revert hbt))
           (repeat (revert bt))
           (repeat (revert hsl))
           (repeat (revert sh))
           (repeat (revert k4))
           (repeat (revert t4))
           (repeat (revert q))
           (repeat (revert k3))
           (repeat (revert t3))
           (repeat (revert hDl))
           (repeat (revert hq5))
           (repeat (revert hqs))
           (repeat (revert hql))
           (repeat (revert qs))
           (repeat (revert hDn))
           (repeat (revert hD))
           (repeat (revert hlen2))
           (repeat (revert ys2))
           (repeat (revert vs2))
           (repeat (revert tk2))
           (repeat (revert h2))
           (repeat (revert D))
           (repeat (revert hn5))
           (repeat (revert hIa))
           (repeat (revert d4))
           (repeat (revert d3))
           (repeat (revert d2))
           (repeat (revert d1))
           (repeat (revert ek))
           (repeat (revert qk))
           (repeat (revert K0))
           (repeat (revert hIs))
           (repeat (revert ns))
           (repeat (rename_i zz; revert zz))
           exact hQ.down))))
theorem tn1 : ck1.1 := by
  intro w0
  w_strict (
    set_option tactic.hygienic false in intros
    k_fill
    with_reducible rename JW _ _ _ _ _ _ _ _ => HJ
    obtain ⟨wl, oW, vsT, usT, cT, ckT, uT, vT, xT, rfl, rfl, hoW, hsW, hsU, hd1, hd2⟩ := HJ
    (try dsimp only)
    k_steps
    refine of_hold ?_
    refine comp2_use (by with_unfolding_all rfl) (by rfl) (by rfl) (by with_unfolding_all rfl) (by decide) (by rfl) (by decide) (by rfl) (by rfl) (by decide) ?_
    k_steps
    have hfl := fac_len (t := bt) (k := iT)
    have hpw : 2 ^ iT ≤ 64 := pow_le64 (by omega)
    have hvl := strs_length hsW
    rw [List.length_map] at hvl
    refine ⟨_, _, _, _, _, _, GrowEl (facW bt iT), src_list (vs := vsT) rfl (by is_list), by omega, rfl, (by k_asm), (by k_asm), ?hib, ?hdb⟩
    (case hib =>
      intro i v C oC m₂ s₃ E' hv hC hm F3 N3 hlt
      obtain ⟨a, t, hx, e⟩ := strs_wt hsW hv
      subst e
      have hx6 : a.length = iT := (fac_mem.mp (List.mem_of_getElem? hx)).1
      have hwl : (wt a).length ≤ 6 := by rw [wt_len]; omega
      k_steps
      refine ⟨⟨_, _, rfl, fun b o e => e⟩, _, _, tailIn ((facW bt iT).map wt) (wt a), CatEl (wt a), srcIn_str rfl (by decide +kernel), by decide +kernel, ?it, ?ie, ?iff⟩
      (case it =>
        intro j u oC2 m5 s5 E5 hu hC5 hmx hmy F5 N5
        obtain ⟨b, tb, e, _⟩ := sign_ab hu
        subst e
        have hy1 : (wt [b]).length = 1 := wt_len _
        refine wpAny_tests_one ?_
        have cE5 := InElt.start s5.heap
        k_steps
        exact ⟨_, _, rfl, by assumption⟩)
      (case ie =>
        intro j u oC2 m5 s5 E5 hu hpu hC5 hmx hmy F5 N5
        obtain ⟨b, tb, e, _⟩ := sign_ab hu
        subst e
        have hy1 : (wt [b]).length = 1 := wt_len _
        k_steps
        · exact ⟨_, _, _, rfl, rfl⟩
        · exact ⟨_, _, rfl, fun b o e => e⟩)
      (case iff => exact fun vs2 ws h1 h2 h3 => ⟨a, t, rfl, letters_of h1 h2 h3⟩))
    (case hdb =>
      intro D4 h4 tk4 ys4 hys4 F4 N4 hD hDn hst
      obtain ⟨vs4, wss4, hlen4, hitems4, hP4, rfl⟩ := hys4
      obtain ⟨c4, hDo⟩ := hD
      obtain rfl := items_eq hlen4 hitems4
      have hgr : Strs wss4.flatten ((growW (facW bt iT)).map wt) := grow_of hsW hP4
      have q4 := fresh_all NT hDn
      simp only [List.mem_cons, List.not_mem_nil, or_false, forall_eq_or_imp, forall_eq] at q4
      have N5 := news_add FT N4 hDo hDn
      clear FT NT N4 hP4 hst hDo hDn hitems4 hlen4
      (try dsimp only)
      k_steps
      refine of_hold ?_
      refine comp_use (by with_unfolding_all rfl) (by with_unfolding_all rfl) (by decide) (by rfl) (by decide) (by rfl) (by rfl) (by rfl) ?_
      k_steps
      with_reducible rename Fr _ _ _ _ => F6
      with_reducible rename News _ _ _ _ => N6
      have hgl := strs_length hgr
      have hgl2 := grow_len (ws := facW bt iT)
      rw [List.length_map] at hgl
      have hshl : (st sh).length ≤ 6 := by rw [st_len]; omega
      refine ⟨_, _, _, _, _, _, hereP (asked (st sh)), fun v y => y = v, src_list (vs := wss4.flatten) rfl (by is_list), by rw [sizeLine_eq]; omega, rfl, (by k_asm), (by k_asm), ⟨?hte, ?hee⟩, ?hde⟩
      (case hte =>
        intro i v C oC m₂ s₃ E' hv hC hm F3 N3 hlt
        obtain ⟨a, t, hx, e⟩ := strs_wt hgr hv
        subst e
        refine wpAny_tests_one ?_
        have cE5 := InElt.start s₃.heap
        k_steps
        refine of_hold ?_
        with_unfolding_all refine' record_c (xs := [wt a]) ?j1 ?j2 ?j3 ?j4 ?j5 ?j6 ?j7 ?j8 ?j9 ?j10 ?j11 ?_
        (case j1 => exact K0)
        (case j2 => k_asm)
        (case j3 => k_asm)
        (case j4 => k_asm)
        (case j5 => exact rfl)
        (case j6 => ktr_room)
        (case j7 => ktr_units)
        (case j8 => is_list)
        (case j9 => exact .cons _ _ .nil)
        (case j10 => (intro x hx; rw [List.mem_singleton.mp hx, wt_len, grow_length (List.mem_of_getElem? (by assumption))]; omega))
        (case j11 => exact (by omega : 1 ≤ 1000))
        intro one d l es n c3 avs h4 tk4 hav hgu hga hst4 ho1 hd1 hl1 hn1 hn2 hn3
        with_reducible rename Fr _ _ _ _ => F6
        with_reducible rename News _ _ _ _ => N5
        with_reducible rename InElt _ _ => E5
        have F7 := F6.keeps hst4
        have E7 := InElt.trans' E5 hst4
        have N7 := news_add F6 (news_add F6 (news_add F6 (N5.grown hst4) hl1 hn3) hd1 hn2) ho1 hn1
        (try simp only [List.cons_append, List.nil_append] at N7)
        clear F6 N5 E5 hl1 hd1 ho1 hn1 hn2 hn3 hst4
        (try dsimp only)
        k_steps
        refine of_hold ?_
        with_reducible rename Fr _ _ _ _ => F8
        with_reducible rename News _ _ _ _ => N8
        with_reducible rename InElt _ _ => E8
        have hq12 : (Str.ofString "*/abbaaabab/").length = 12 := by decide
        with_unfolding_all refine' applies_c ?j1 ?j2 ?j3 ?j4 ?j5 ?j6 ?j7 ?j8 hgu ?j9 ?j10 hav ?j11 ?_
        (case j1 => exact K0)
        (case j2 => k_asm)
        (case j3 => k_asm)
        (case j4 => k_asm)
        (case j5 => exact rfl)
        (case j6 => ktr_room)
        (case j7 => ktr_units)
        (case j8 => exact ⟨News.get (by assumption) (by k_mem), rfl, rfl, News.get (by assumption) (by k_mem)⟩)
        (case j9 => rw [Str.length_append]; omega)
        (case j10 => is_list)
        (case j11 => exact agents_len (as := [a]) fun b hb => by rw [List.mem_singleton.mp hb, grow_length (List.mem_of_getElem? hx)]; omega)
        intro h9 tk9 hst9
        have F9 := F8.keeps hst9
        have E9 := InElt.trans' E8 hst9
        clear E8
        (try dsimp only)
        k_steps
        exact ⟨_, _, rfl, E9⟩)
      (case hee =>
        intro i v C oC m₂ s₃ E' hv hp hC hm F3 N3 hlt
        k_steps
        exact ⟨_, _, rfl, fun b o e => e⟩)
      (case hde =>
        intro D5 h5 tk5 ys5 hys5 F7 N7 hD5 hDn5 hst5
        obtain ⟨vs5, hlen5, hitems5, hP5⟩ := hys5
        obtain ⟨c5, hDo5⟩ := hD5
        obtain rfl := items_eq hlen5 hitems5
        have e5 := paired_eq hP5
        subst e5
        have hhere := here_of hbt hgr
        have q5 := fresh_all N6 hDn5
        simp only [List.mem_cons, List.not_mem_nil, or_false, forall_eq_or_imp, forall_eq] at q5
        have N8 := news_add F6 N7 hDo5 hDn5
        clear F6 N6 N7 hP5 hst5 hDo5 hDn5 hitems5 hlen5
        (try dsimp only)
        k_steps
        refine of_hold ?_
        with_reducible rename Fr _ _ _ _ => F9
        with_reducible rename News _ _ _ _ => N9
        with_unfolding_all refine' filter_c ?j1 ?j2 ?j3 ?j4 ?j5 ?j6 ?j7 ?j8 hgr ?j9 hhere ?j10 ?_
        (case j1 => exact K0)
        (case j2 => k_asm)
        (case j3 => k_asm)
        (case j4 => k_asm)
        (case j5 => exact rfl)
        (case j6 => ktr_room)
        (case j7 => ktr_units)
        (case j8 => is_list)
        (case j9 => exact ⟨_, News.get (by assumption) (by k_mem)⟩)
        (case j10 => omega)
        intro D6 c6 h6 tk6 hU hD6 hDn6
        have hkeep := keep_of (bs := (growW (facW bt iT)).filter fun a => isIn a bt) hgr
        rw [filt_not] at hkeep
        have q6 := fresh_all N9 hDn6
        simp only [List.mem_cons, List.not_mem_nil, or_false, forall_eq_or_imp, forall_eq] at q6
        have F10 := fr_up F9 hU
        have N10 := news_add F9 (news_up N9 hU) hD6 hDn6
        clear F9 N9 hU hD6 hDn6
        (try dsimp only)
        k_steps
        simp only [List.mem_cons, List.not_mem_nil, or_false, forall_eq_or_imp, forall_eq] at hIT
        have hul := strs_length hsU
        have hll := lac_len (t := bt) (n := iT)
        have hkl : (wss4.flatten.filter (keepP (((growW (facW bt iT)).filter fun a => isIn a bt).map wt))).length ≤ wss4.flatten.length := List.length_filter_le _ _
        rw [List.length_map] at hul
        refine' extend_any ?m1 ?m2 ?m3 ?m4 ?m5 ?_
        (case m1 => k_asm)
        (case m2 => k_asm)
        (case m3 => k_mem)
        (case m4 => k_updF)
        (case m5 => omega)
        intro h7 k7 F11 N11
        (try dsimp only at N11)
        clear F10 N10
        (try dsimp only)
        k_steps
        with_reducible rename Fr _ _ _ _ => F12
        with_reducible rename News _ _ _ _ => N12
        have hlac : Strs (usT ++ wss4.flatten.filter (keepP (((growW (facW bt iT)).filter fun a => isIn a bt).map wt))) ((lacW bt (iT + 1)).map wt) := by
          show Strs _ ((lacW bt iT ++ _).map wt)
          rw [List.map_append]
          exact strs_append hsU hkeep
        refine UnrEnd.intro F12 N12 _ ?sub ?off ⟨D5, _, _, _, c5, k7, some (.int (0 + (iT : Int) * 1) tT), some (.ref D4), some (.ref D5), mapW_end, rfl, by assumption, hhere, hlac, by omega, by omega⟩
        (case sub => (intro p hp; (repeat (rcases List.mem_cons.mp hp with hq | hp; · (subst hq; (repeat' (first | exact List.Mem.head _ | refine List.Mem.tail _ ?_))))); exact absurd hp List.not_mem_nil))
        (case off => (intro p hp; (repeat (rcases List.mem_cons.mp hp with hq | hp; · (subst hq; k_ne))); exact absurd hp List.not_mem_nil)))))
noncomputable def ck2 : (P : Prop) ×' (Q : Prop) ×' (PLift P → PLift Q → ck1.2.1) := by
  refine' ⟨_, _, fun hP hQ => ?main⟩
  (case main =>
      intro w0
      w_strict (
        set_option tactic.hygienic false in intros
        k_fill
        obtain ⟨wl, oW, vsT, usT, cT, ckT, uT, vT, xT, rfl, rfl, hoW, hsW, hsU, hd1, hd2⟩ := HJ
        (try dsimp only)
        k_steps
        refine of_hold ?_
        have hll := lac_len (t := bt) (n := bt.length + 1)
        have hul := strs_length hsU
        rw [List.length_map] at hul
        have hpw := pow_le64 hTl.1
        rw [Nat.pow_succ] at hll
        with_unfolding_all refine' iter_led (fun _ => True) ?i1 ?i2 ?i3 ?i4 ?i5 ?i6 ?i7 ?i8
        (case i1 => exact rfl)
        (case i2 => assumption)
        (case i3 => exact NT)
        (case i4 => k_mem)
        (case i5 => is_list)
        (case i6 => trivial)
        (case i8 =>
          clear NT
          intro u2 hT2 tkT2 hJ2 FT2 NT2
          (try dsimp only)
          k_steps
          refine of_hold ?_
          with_unfolding_all refine' record_c ?j1 ?j2 ?j3 ?j4 ?j5 ?j6 ?j7 ?j8 hsU ?j10 ?j11 ?_
          (case j1 => exact K0)
          (case j2 => k_asm)
          (case j3 => k_asm)
          (case j4 => k_asm)
          (case j5 => exact rfl)
          (case j6 => ktr_room)
          (case j7 => ktr_units)
          (case j8 => is_list)
          (case j10 => exact wt_short fun a ha => Nat.le_trans (lac_mem.mp ha).2.1 (by omega))
          (case j11 => omega)
          intro one d l es n c3 avs h5 tk5 hav hgu hga hst5 ho1 hd1' hl1 hn1 hn2 hn3
          have F5 := FT2.keeps hst5
          have N5 := news_add FT2 (news_add FT2 (news_add FT2 (NT2.grown hst5) hl1 hn3) hd1' hn2) ho1 hn1
          (try simp only [List.cons_append, List.nil_append] at N5)
          clear FT2 NT2 hl1 hd1' ho1 hn1 hn2 hn3 hst5
          (try dsimp only)
          k_steps
          refine of_hold ?_
          with_reducible rename Fr _ _ _ _ => F8
          with_reducible rename News _ _ _ _ => N8
          have N9 := pick2 N8
          with_unfolding_all refine rng_loop (n := bt.length + 1) (JS (stepR bt) [] _ _) _ (by rfl) (by assumption) (by simp) (by omega) F8 N9 (fun p hp => hp) ⟨_, _, _, mapS_start _ (by rfl), rfl⟩ ?turn3 ?done3
          all_goals clear F8 N9 N8
          (case turn3 =>
            (repeat (revert N5))
            (repeat (revert F5))
            (repeat (revert hga))
            (repeat (revert hgu))
            (repeat (revert hav))
            (repeat (revert tk5))
            (repeat (revert h5))
            (repeat (revert avs))
            (repeat (revert c3))
            (repeat (revert n))
            (repeat (revert es))
            (repeat (revert l))
            (repeat (revert d))
            (repeat (revert one))
            (repeat (revert hJ2))
            (repeat (revert tkT2))
            (repeat (revert hT2))
            (repeat (revert u2))
            (repeat (revert hpw))
            (repeat (revert hul))
            (repeat (revert hll))
            (repeat (revert hd2))
            (repeat (revert hd1))
            (repeat (revert hsU))
            (repeat (revert hsW))
            (repeat (revert hoW))
            (repeat (revert xT))
            (repeat (revert vT))
            (repeat (revert uT))
            (repeat (revert ckT))
            (repeat (revert cT))
            (repeat (revert usT))
            (repeat (revert vsT))
            (repeat (revert oW))
            (repeat (revert wl))
            (repeat (revert tkT))
            (repeat (revert hT))
            (repeat (revert tk_2))
            (repeat (revert tk_1))
            (repeat (revert d'_1))
            (repeat (revert tk))
            (repeat (revert hTl))
            (repeat (revert hbt))
            (repeat (revert a))
            (repeat (revert bt))
            (repeat (revert hsl))
            (repeat (revert d'))
            (repeat (revert sh))
            (repeat (revert k4))
            (repeat (revert t4))
            (repeat (revert q))
            (repeat (revert k3))
            (repeat (revert qk_1))
            (repeat (revert t3))
            (repeat (revert hDl))
            (repeat (revert hq5))
            (repeat (revert hqs))
            (repeat (revert hql))
            (repeat (revert qs))
            (repeat (revert hDn))
            (repeat (revert hD))
            (repeat (revert hlen2))
            (repeat (revert ys2))
            (repeat (revert vs2))
            (repeat (revert tk2))
            (repeat (revert h2))
            (repeat (revert D))
            (repeat (revert hn5))
            (repeat (revert hIa))
            (repeat (revert d4))
            (repeat (revert d3))
            (repeat (revert d2))
            (repeat (revert d1))
            (repeat (revert ek_1))
            (repeat (revert ek))
            (repeat (revert qk))
            (repeat (revert K0))
            (repeat (revert hIs))
            (repeat (revert kxiE))
            (repeat (revert hL'))
            (repeat (revert hC'))
            (repeat (revert hcond'))
            (repeat (revert r0))
            (repeat (revert w1))
            (repeat (revert ra))
            (repeat (revert hL))
            (repeat (revert hs))
            (repeat (revert ns))
            (repeat (revert zz_71))
            (repeat (revert zz_70))
            (repeat (revert zz_69))
            (repeat (revert zz_68))
            (repeat (revert zz_67))
            (repeat (revert zz_66))
            (repeat (revert zz_65))
            (repeat (revert zz_64))
            (repeat (revert zz_63))
            (repeat (revert zz_61))
            (repeat (revert zz_60))
            (repeat (revert zz_59))
            (repeat (revert zz_58))
            (repeat (revert zz_57))
            (repeat (revert zz_56))
            (repeat (revert zz_55))
            (repeat (revert zz_54))
            (repeat (revert zz_53))
            (repeat (revert zz_52))
            (repeat (revert zz_51))
            (repeat (revert zz_50))
            (repeat (revert zz_49))
            (repeat (revert zz_48))
            (repeat (revert zz_47))
            (repeat (revert zz_46))
            (repeat (revert zz_45))
            (repeat (revert zz_44))
            (repeat (revert zz_43))
            (repeat (revert zz_42))
            (repeat (revert zz_41))
            (repeat (revert zz_40))
            (repeat (revert zz_39))
            (repeat (revert zz_38))
            (repeat (revert zz_37))
            (repeat (revert zz_36))
            (repeat (revert zz_35))
            (repeat (revert zz_34))
            (repeat (revert zz_33))
            (repeat (revert zz_32))
            (repeat (revert zz_31))
            (repeat (revert zz_30))
            (repeat (revert zz_29))
            (repeat (revert zz_28))
            (repeat (revert zz_27))
            (repeat (revert zz_26))
            (repeat (revert zz_25))
            (repeat (revert zz_24))
            (repeat (revert zz_23))
            (repeat (revert zz_22))
            (repeat (revert zz_21))
            (repeat (revert zz_20))
            (repeat (revert zz_19))
            (repeat (revert zz_18))
            (repeat (revert zz_17))
            (repeat (revert zz_16))
            (repeat (revert zz_15))
            (repeat (revert zz_14))
            (repeat (revert zz_13))
            (repeat (revert zz_12))
            (repeat (revert zz_11))
            (repeat (revert zz_10))
            (repeat (revert zz_9))
            (repeat (revert zz_8))
            (repeat (revert zz_7))
            (repeat (revert zz_6))
            (repeat (revert zz_5))
            (repeat (revert zz_4))
            (repeat (revert zz_3))
            (repeat (revert zz_2))
            (repeat (revert zz_1))
            (repeat (revert zz))
            (repeat (revert w0))
            (repeat (rename_i zz; revert zz))
            exact hP.down)
          (case done3 =>
            (repeat (revert N5))
            (repeat (revert F5))
            (repeat (revert hga))
            (repeat (revert hgu))
            (repeat (revert hav))
            (repeat (revert tk5))
            (repeat (revert h5))
            (repeat (revert avs))
            (repeat (revert c3))
            (repeat (revert n))
            (repeat (revert es))
            (repeat (revert l))
            (repeat (revert d))
            (repeat (revert one))
            (repeat (revert hJ2))
            (repeat (revert tkT2))
            (repeat (revert hT2))
            (repeat (revert u2))
            (repeat (revert hpw))
            (repeat (revert hul))
            (repeat (revert hll))
            (repeat (revert hd2))
            (repeat (revert hd1))
            (repeat (revert hsU))
            (repeat (revert hsW))
            (repeat (revert hoW))
            (repeat (revert xT))
            (repeat (revert vT))
            (repeat (revert uT))
            (repeat (revert ckT))
            (repeat (revert cT))
            (repeat (revert usT))
            (repeat (revert vsT))
            (repeat (revert oW))
            (repeat (revert wl))
            (repeat (revert tkT))
            (repeat (revert hT))
            (repeat (revert tk_2))
            (repeat (revert tk_1))
            (repeat (revert d'_1))
            (repeat (revert tk))
            (repeat (revert hTl))
            (repeat (revert hbt))
            (repeat (revert a))
            (repeat (revert bt))
            (repeat (revert hsl))
            (repeat (revert d'))
            (repeat (revert sh))
            (repeat (revert k4))
            (repeat (revert t4))
            (repeat (revert q))
            (repeat (revert k3))
            (repeat (revert qk_1))
            (repeat (revert t3))
            (repeat (revert hDl))
            (repeat (revert hq5))
            (repeat (revert hqs))
            (repeat (revert hql))
            (repeat (revert qs))
            (repeat (revert hDn))
            (repeat (revert hD))
            (repeat (revert hlen2))
            (repeat (revert ys2))
            (repeat (revert vs2))
            (repeat (revert tk2))
            (repeat (revert h2))
            (repeat (revert D))
            (repeat (revert hn5))
            (repeat (revert hIa))
            (repeat (revert d4))
            (repeat (revert d3))
            (repeat (revert d2))
            (repeat (revert d1))
            (repeat (revert ek_1))
            (repeat (revert ek))
            (repeat (revert qk))
            (repeat (revert K0))
            (repeat (revert hIs))
            (repeat (revert kxiE))
            (repeat (revert hL'))
            (repeat (revert hC'))
            (repeat (revert hcond'))
            (repeat (revert r0))
            (repeat (revert w1))
            (repeat (revert ra))
            (repeat (revert hL))
            (repeat (revert hs))
            (repeat (revert ns))
            (repeat (revert zz_71))
            (repeat (revert zz_70))
            (repeat (revert zz_69))
            (repeat (revert zz_68))
            (repeat (revert zz_67))
            (repeat (revert zz_66))
            (repeat (revert zz_65))
            (repeat (revert zz_64))
            (repeat (revert zz_63))
            (repeat (revert zz_61))
            (repeat (revert zz_60))
            (repeat (revert zz_59))
            (repeat (revert zz_58))
            (repeat (revert zz_57))
            (repeat (revert zz_56))
            (repeat (revert zz_55))
            (repeat (revert zz_54))
            (repeat (revert zz_53))
            (repeat (revert zz_52))
            (repeat (revert zz_51))
            (repeat (revert zz_50))
            (repeat (revert zz_49))
            (repeat (revert zz_48))
            (repeat (revert zz_47))
            (repeat (revert zz_46))
            (repeat (revert zz_45))
            (repeat (revert zz_44))
            (repeat (revert zz_43))
            (repeat (revert zz_42))
            (repeat (revert zz_41))
            (repeat (revert zz_40))
            (repeat (revert zz_39))
            (repeat (revert zz_38))
            (repeat (revert zz_37))
            (repeat (revert zz_36))
            (repeat (revert zz_35))
            (repeat (revert zz_34))
            (repeat (revert zz_33))
            (repeat (revert zz_32))
            (repeat (revert zz_31))
            (repeat (revert zz_30))
            (repeat (revert zz_29))
            (repeat (revert zz_28))
            (repeat (revert zz_27))
            (repeat (revert zz_26))
            (repeat (revert zz_25))
            (repeat (revert zz_24))
            (repeat (revert zz_23))
            (repeat (revert zz_22))
            (repeat (revert zz_21))
            (repeat (revert zz_20))
            (repeat (revert zz_19))
            (repeat (revert zz_18))
            (repeat (revert zz_17))
            (repeat (revert zz_16))
            (repeat (revert zz_15))
            (repeat (revert zz_14))
            (repeat (revert zz_13))
            (repeat (revert zz_12))
            (repeat (revert zz_11))
            (repeat (revert zz_10))
            (repeat (revert zz_9))
            (repeat (revert zz_8))
            (repeat (revert zz_7))
            (repeat (revert zz_6))
            (repeat (revert zz_5))
            (repeat (revert zz_4))
            (repeat (revert zz_3))
            (repeat (revert zz_2))
            (repeat (revert zz_1))
            (repeat (revert zz))
            (repeat (revert w0))
            (repeat (rename_i zz; revert zz))
            exact hQ.down))
        (case i7 =>
          clear NT
          intro iT v2 I2 o2 hT2 tkT2 hv2 hJ2 hI2 FT2 NT2
          obtain ⟨w2, t2, hx2, e⟩ := strs_wt hsU hv2
          subst e
          have hw2 : w2 ∈ lacks bt := List.mem_of_getElem? hx2
          have hwl2 : w2.length ≤ 7 := by
            have := (lac_mem.mp hw2).2.1
            omega
          (try dsimp only)
          k_steps
          refine of_hold ?_
          with_reducible rename Fr _ _ _ _ => F3
          with_reducible rename News _ _ _ _ => N3
          with_unfolding_all refine' filter_c (ys := [wt w2]) ?j1 ?j2 ?j3 ?j4 ?j5 ?j6 ?j7 ?j8 hsU ?j9 ?j9b ?j10 ?_
          (case j1 => exact K0)
          (case j2 => k_asm)
          (case j3 => k_asm)
          (case j4 => k_asm)
          (case j5 => exact rfl)
          (case j6 => ktr_room)
          (case j7 => ktr_units)
          (case j8 => is_list)
          (case j9 => exact ⟨_, News.get (by assumption) (by k_mem)⟩)
          (case j9b => exact .cons _ _ .nil)
          (case j10 => omega)
          intro D4 c4 h4 tk4 hU hD4 hDn4
          have hkeep : Strs (usT.filter (keepP [wt w2])) (((lacks bt).filter fun a => !([w2].any (· == a))).map wt) := keep_of (bs := [w2]) hsU
          have hkl : (usT.filter (keepP [wt w2])).length ≤ usT.length := List.length_filter_le _ _
          have F4 := fr_up F3 hU
          have N4 := news_add F3 (news_up N3 hU) hD4 hDn4
          clear F3 N3 hU hD4 hDn4
          (try dsimp only)
          k_steps
          refine of_hold ?_
          with_unfolding_all refine' record_c ?j1 ?j2 ?j3 ?j4 ?j5 ?j6 ?j7 ?j8 hkeep ?j10 ?j11 ?_
          (case j1 => exact K0)
          (case j2 => k_asm)
          (case j3 => k_asm)
          (case j4 => k_asm)
          (case j5 => exact rfl)
          (case j6 => ktr_room)
          (case j7 => ktr_units)
          (case j8 => is_list)
          (case j10 => exact wt_short fun a ha => Nat.le_trans (lac_mem.mp (List.mem_filter.mp ha).1).2.1 (by omega))
          (case j11 => omega)
          intro one d l es n c3 avs h5 tk5 hav hgu hga hst5 ho1 hd1' hl1 hn1 hn2 hn3
          have F5 := F4.keeps hst5
          have N5 := news_add F4 (news_add F4 (news_add F4 (N4.grown hst5) hl1 hn3) hd1' hn2) ho1 hn1
          (try simp only [List.cons_append, List.nil_append] at N5)
          clear F4 N4 hl1 hd1' ho1 hn1 hn2 hn3 hst5
          (try dsimp only)
          k_steps
          refine of_hold ?_
          with_unfolding_all refine' applies_c ?j1 ?j2 ?j3 ?j4 ?j5 ?j6 ?j7 ?j8 hgu ?j9 ?j10 hav ?j11 ?_
          (case j1 => exact K0)
          (case j2 => k_asm)
          (case j3 => k_asm)
          (case j4 => k_asm)
          (case j5 => exact rfl)
          (case j6 => ktr_room)
          (case j7 => ktr_units)
          (case j8 => exact ⟨News.get (by assumption) (by k_mem), rfl, rfl, News.get (by assumption) (by k_mem)⟩)
          (case j9 => rw [wt_len]; omega)
          (case j10 => is_list)
          (case j11 => exact agents_len fun a ha => Nat.le_trans (lac_mem.mp (List.mem_filter.mp ha).1).2.1 (by omega))
          intro h6 tk6 hst6
          rw [own_word hw2]
          with_reducible rename Fr _ _ _ _ => F6
          with_reducible rename News _ _ _ _ => N6
          have F7 := F6.keeps hst6
          have N7 := N6.grown hst6
          (try simp only [List.cons_append, List.nil_append] at N7)
          clear F6 N6
          (try dsimp only)
          k_steps
          refine InvEnd.intro F7 N7 ?sub ⟨trivial, ?_⟩
          (case sub => (intro p hp; (repeat (rcases List.mem_cons.mp hp with hq | hp; · (subst hq; (repeat' (first | exact List.Mem.head _ | refine List.Mem.tail _ ?_))))); exact absurd hp List.not_mem_nil))
          (intro z hz; first | rfl | (simp [hz]; done)))))
theorem tn3 : ck2.1 := by
  intro w0
  w_strict (
    set_option tactic.hygienic false in intros
    k_fill
    obtain ⟨tN, uT, vT, rfl, rfl⟩ := HJ
    (try dsimp only)
    have hnm := iter_len (stepR_len bt) (n := iT) (x := [])
    obtain ⟨nm, hnE⟩ : ∃ nm, nm = iter (stepR bt) iT [] := ⟨_, rfl⟩
    rw [← hnE] at FT hnm
    have hnl : (wt nm).length ≤ 6 := by rw [wt_len]; rw [List.length_nil] at hnm; omega
    k_steps
    refine of_hold ?_
    with_unfolding_all refine' left_n (cs' := [nm ++ [false], nm ++ [true]]) ?j1 ?j2 ?j3 ?j4 ?j5 ?j6 ?j7 ?j8 hgu hga ?j9 hav ?j10 ?j11 ?j12 ?j13 ?j14 ?_
    (case j1 => exact K0)
    (case j2 => k_asm)
    (case j3 => k_asm)
    (case j4 => k_asm)
    (case j5 => exact rfl)
    (case j6 => ktr_room)
    (case j7 => ktr_units)
    (case j8 => exact ⟨News.get (by assumption) (by k_mem), rfl, rfl, News.get (by assumption) (by k_mem)⟩)
    (case j9 => is_list)
    (case j10 => omega)
    (case j11 => is_list)
    (case j12 => (rw [let_a, let_b, wt_append, wt_append]; exact two_wt))
    (case j13 => exact two_all (snoc_len (by rw [wt_len] at hnl; omega)) (snoc_len (by rw [wt_len] at hnl; omega)))
    (case j14 => exact (by omega : 2 ≤ 100000))
    intro D5 zs c5 h5 tk5 hU hD5 hzs hD5n
    with_reducible rename Fr _ _ _ _ => F6
    with_reducible rename News _ _ _ _ => N6
    have hne5 := fresh_all N6 hD5n
    simp only [List.mem_cons, List.not_mem_nil, or_false, forall_eq_or_imp, forall_eq] at hne5
    have F7 := fr_up F6 hU
    have N7 := news_add F6 (news_up N6 hU) hD5 hD5n
    clear F6 N6 hU hD5 hD5n
    rcases left_two hzs with ⟨i1, t1, r1, e1, hr1⟩ | ⟨i1, i2, t1, e1⟩ | ⟨i1, i2, e1⟩
    all_goals subst e1
    all_goals (try dsimp only)
    all_goals k_steps
    all_goals (with_reducible rename Fr _ _ _ _ => F12)
    all_goals (with_reducible rename News _ _ _ _ => N12)
    all_goals (simp only [List.mem_cons, List.not_mem_nil, or_false, forall_eq_or_imp, forall_eq] at hIT)
    · refine UnrEnd.intro F12 N12 _ ?sub ?off ⟨t1, some (.int (0 + (iT : Int) * 1) tT), some (.ref D5), mapS_iter (iter_step hnE (stepR_1 i1)), rfl⟩
      (case sub => (intro p hp; (repeat (rcases List.mem_cons.mp hp with hq | hp; · (subst hq; (repeat' (first | exact List.Mem.head _ | refine List.Mem.tail _ ?_))))); exact absurd hp List.not_mem_nil))
      (case off => (intro p hp; (repeat (rcases List.mem_cons.mp hp with hq | hp; · (subst hq; k_ne))); exact absurd hp List.not_mem_nil))
    · refine UnrEnd.intro F12 N12 _ ?sub ?off ⟨t1, some (.int (0 + (iT : Int) * 1) tT), some (.ref D5), mapS_iter (iter_step hnE (stepR_2 i1 i2)), rfl⟩
      (case sub => (intro p hp; (repeat (rcases List.mem_cons.mp hp with hq | hp; · (subst hq; (repeat' (first | exact List.Mem.head _ | refine List.Mem.tail _ ?_))))); exact absurd hp List.not_mem_nil))
      (case off => (intro p hp; (repeat (rcases List.mem_cons.mp hp with hq | hp; · (subst hq; k_ne))); exact absurd hp List.not_mem_nil))
    · refine UnrEnd.intro F12 N12 _ ?sub ?off ⟨tN, some (.int (0 + (iT : Int) * 1) tT), some (.ref D5), mapS_iter (iter_step hnE (stepR_3 i1 i2)), rfl⟩
      (case sub => (intro p hp; (repeat (rcases List.mem_cons.mp hp with hq | hp; · (subst hq; (repeat' (first | exact List.Mem.head _ | refine List.Mem.tail _ ?_))))); exact absurd hp List.not_mem_nil))
      (case off => (intro p hp; (repeat (rcases List.mem_cons.mp hp with hq | hp; · (subst hq; k_ne))); exact absurd hp List.not_mem_nil)))
noncomputable def ck3 : (P : Prop) ×' (Q : Prop) ×' (PLift P → PLift Q → ck2.2.1) := by
  refine' ⟨_, _, fun hP hQ => ?main⟩
  (case main =>
      intro w0
      w_strict (
        set_option tactic.hygienic false in intros
        k_fill
        obtain ⟨tN, uT, vT, rfl, rfl⟩ := HJ
        (try dsimp only)
        k_steps
        refine of_hold ?_
        with_reducible rename Fr _ _ _ _ => F8
        with_reducible rename News _ _ _ _ => N8
        with_unfolding_all refine rng_loop (n := bt.length + 1) (JS (stepL bt) (iter (stepR bt) (bt.length + 1) []) _ _) _ (by rfl) (by assumption) (by simp) (by omega) F8 N8 (fun p hp => hp) ⟨_, _, _, mapS_start _ (by rfl), rfl⟩ ?turn4 ?done4
        all_goals clear F8 N8
        (case turn4 =>
          (repeat (revert tN))
          (repeat (revert tkT_1))
          (repeat (revert hT_1))
          (repeat (revert N5))
          (repeat (revert F5))
          (repeat (revert hga))
          (repeat (revert hgu))
          (repeat (revert hav))
          (repeat (revert tk5))
          (repeat (revert h5))
          (repeat (revert N'))
          (repeat (revert avs))
          (repeat (revert c3))
          (repeat (revert n))
          (repeat (revert es))
          (repeat (revert l))
          (repeat (revert d))
          (repeat (revert F'))
          (repeat (revert one))
          (repeat (revert hJ2))
          (repeat (revert tkT2))
          (repeat (revert hT2))
          (repeat (revert u2))
          (repeat (revert hpw))
          (repeat (revert hul))
          (repeat (revert hll))
          (repeat (revert hd2))
          (repeat (revert hd1))
          (repeat (revert hsU))
          (repeat (revert hsW))
          (repeat (revert hoW))
          (repeat (revert lF'))
          (repeat (revert xT))
          (repeat (revert vT))
          (repeat (revert uT))
          (repeat (revert ckT))
          (repeat (revert cT))
          (repeat (revert usT))
          (repeat (revert vsT))
          (repeat (revert oW))
          (repeat (revert wl))
          (repeat (revert tkT))
          (repeat (revert hT))
          (repeat (revert tk_2))
          (repeat (revert tk_1_1))
          (repeat (revert d'_1))
          (repeat (revert tk_1))
          (repeat (revert tk))
          (repeat (revert hTl))
          (repeat (revert hbt))
          (repeat (revert a_2))
          (repeat (revert a_1))
          (repeat (revert bt))
          (repeat (revert hsl))
          (repeat (revert d'))
          (repeat (revert sh))
          (repeat (revert k4))
          (repeat (revert t4))
          (repeat (revert q))
          (repeat (revert k3))
          (repeat (revert qk_1))
          (repeat (revert t3))
          (repeat (revert hDl))
          (repeat (revert hq5))
          (repeat (revert hqs))
          (repeat (revert hql))
          (repeat (revert qs))
          (repeat (revert hDn))
          (repeat (revert hD))
          (repeat (revert hlen2))
          (repeat (revert ys2))
          (repeat (revert vs2))
          (repeat (revert tk2))
          (repeat (revert h2))
          (repeat (revert D))
          (repeat (revert hn5))
          (repeat (revert hIa))
          (repeat (revert d4))
          (repeat (revert d3))
          (repeat (revert d2))
          (repeat (revert d1))
          (repeat (revert ek_1))
          (repeat (revert ek))
          (repeat (revert qk))
          (repeat (revert K0))
          (repeat (revert hIs))
          (repeat (revert kxiE))
          (repeat (revert hL'))
          (repeat (revert hC'))
          (repeat (revert hcond'))
          (repeat (revert r0))
          (repeat (revert w1))
          (repeat (revert ra))
          (repeat (revert hL))
          (repeat (revert hs))
          (repeat (revert ns))
          (repeat (revert zz_71))
          (repeat (revert zz_70))
          (repeat (revert zz_69))
          (repeat (revert zz_68))
          (repeat (revert zz_67))
          (repeat (revert zz_66))
          (repeat (revert zz_65))
          (repeat (revert zz_64))
          (repeat (revert zz_63))
          (repeat (revert zz_61))
          (repeat (revert zz_60))
          (repeat (revert zz_59))
          (repeat (revert zz_58))
          (repeat (revert zz_57))
          (repeat (revert zz_56))
          (repeat (revert zz_55))
          (repeat (revert zz_54))
          (repeat (revert zz_53))
          (repeat (revert zz_52))
          (repeat (revert zz_51))
          (repeat (revert zz_50))
          (repeat (revert zz_49))
          (repeat (revert zz_48))
          (repeat (revert zz_47))
          (repeat (revert zz_46))
          (repeat (revert zz_45))
          (repeat (revert zz_44))
          (repeat (revert zz_43))
          (repeat (revert zz_42))
          (repeat (revert zz_41))
          (repeat (revert zz_40))
          (repeat (revert zz_39))
          (repeat (revert zz_38))
          (repeat (revert zz_37))
          (repeat (revert zz_36))
          (repeat (revert zz_35))
          (repeat (revert zz_34))
          (repeat (revert zz_33))
          (repeat (revert zz_32))
          (repeat (revert zz_31))
          (repeat (revert zz_30))
          (repeat (revert zz_29))
          (repeat (revert zz_28))
          (repeat (revert zz_27))
          (repeat (revert zz_26))
          (repeat (revert zz_25))
          (repeat (revert zz_24))
          (repeat (revert zz_23))
          (repeat (revert zz_22))
          (repeat (revert zz_21))
          (repeat (revert zz_20))
          (repeat (revert zz_19))
          (repeat (revert zz_18))
          (repeat (revert zz_17))
          (repeat (revert zz_16))
          (repeat (revert zz_15))
          (repeat (revert zz_14))
          (repeat (revert zz_13))
          (repeat (revert zz_12))
          (repeat (revert zz_11))
          (repeat (revert zz_10))
          (repeat (revert zz_9))
          (repeat (revert zz_8_1))
          (repeat (revert zz_7_1))
          (repeat (revert zz_6_1))
          (repeat (revert zz_5_1))
          (repeat (revert zz_4_1))
          (repeat (revert zz_3_1))
          (repeat (revert zz_2_1))
          (repeat (revert a))
          (repeat (revert zz_1_1))
          (repeat (revert zz_8))
          (repeat (revert w0_1))
          (repeat (revert zz_7))
          (repeat (revert zz_6))
          (repeat (revert zz_5))
          (repeat (revert zz_4))
          (repeat (revert zz_3))
          (repeat (revert zz_2))
          (repeat (revert zz_1))
          (repeat (revert zz))
          (repeat (revert w0))
          (repeat (rename_i zz; revert zz))
          exact hP.down)
        (case done4 =>
          (repeat (revert tN))
          (repeat (revert tkT_1))
          (repeat (revert hT_1))
          (repeat (revert N5))
          (repeat (revert F5))
          (repeat (revert hga))
          (repeat (revert hgu))
          (repeat (revert hav))
          (repeat (revert tk5))
          (repeat (revert h5))
          (repeat (revert N'))
          (repeat (revert avs))
          (repeat (revert c3))
          (repeat (revert n))
          (repeat (revert es))
          (repeat (revert l))
          (repeat (revert d))
          (repeat (revert F'))
          (repeat (revert one))
          (repeat (revert hJ2))
          (repeat (revert tkT2))
          (repeat (revert hT2))
          (repeat (revert u2))
          (repeat (revert hpw))
          (repeat (revert hul))
          (repeat (revert hll))
          (repeat (revert hd2))
          (repeat (revert hd1))
          (repeat (revert hsU))
          (repeat (revert hsW))
          (repeat (revert hoW))
          (repeat (revert lF'))
          (repeat (revert xT))
          (repeat (revert vT))
          (repeat (revert uT))
          (repeat (revert ckT))
          (repeat (revert cT))
          (repeat (revert usT))
          (repeat (revert vsT))
          (repeat (revert oW))
          (repeat (revert wl))
          (repeat (revert tkT))
          (repeat (revert hT))
          (repeat (revert tk_2))
          (repeat (revert tk_1_1))
          (repeat (revert d'_1))
          (repeat (revert tk_1))
          (repeat (revert tk))
          (repeat (revert hTl))
          (repeat (revert hbt))
          (repeat (revert a_2))
          (repeat (revert a_1))
          (repeat (revert bt))
          (repeat (revert hsl))
          (repeat (revert d'))
          (repeat (revert sh))
          (repeat (revert k4))
          (repeat (revert t4))
          (repeat (revert q))
          (repeat (revert k3))
          (repeat (revert qk_1))
          (repeat (revert t3))
          (repeat (revert hDl))
          (repeat (revert hq5))
          (repeat (revert hqs))
          (repeat (revert hql))
          (repeat (revert qs))
          (repeat (revert hDn))
          (repeat (revert hD))
          (repeat (revert hlen2))
          (repeat (revert ys2))
          (repeat (revert vs2))
          (repeat (revert tk2))
          (repeat (revert h2))
          (repeat (revert D))
          (repeat (revert hn5))
          (repeat (revert hIa))
          (repeat (revert d4))
          (repeat (revert d3))
          (repeat (revert d2))
          (repeat (revert d1))
          (repeat (revert ek_1))
          (repeat (revert ek))
          (repeat (revert qk))
          (repeat (revert K0))
          (repeat (revert hIs))
          (repeat (revert kxiE))
          (repeat (revert hL'))
          (repeat (revert hC'))
          (repeat (revert hcond'))
          (repeat (revert r0))
          (repeat (revert w1))
          (repeat (revert ra))
          (repeat (revert hL))
          (repeat (revert hs))
          (repeat (revert ns))
          (repeat (revert zz_71))
          (repeat (revert zz_70))
          (repeat (revert zz_69))
          (repeat (revert zz_68))
          (repeat (revert zz_67))
          (repeat (revert zz_66))
          (repeat (revert zz_65))
          (repeat (revert zz_64))
          (repeat (revert zz_63))
          (repeat (revert zz_61))
          (repeat (revert zz_60))
          (repeat (revert zz_59))
          (repeat (revert zz_58))
          (repeat (revert zz_57))
          (repeat (revert zz_56))
          (repeat (revert zz_55))
          (repeat (revert zz_54))
          (repeat (revert zz_53))
          (repeat (revert zz_52))
          (repeat (revert zz_51))
          (repeat (revert zz_50))
          (repeat (revert zz_49))
          (repeat (revert zz_48))
          (repeat (revert zz_47))
          (repeat (revert zz_46))
          (repeat (revert zz_45))
          (repeat (revert zz_44))
          (repeat (revert zz_43))
          (repeat (revert zz_42))
          (repeat (revert zz_41))
          (repeat (revert zz_40))
          (repeat (revert zz_39))
          (repeat (revert zz_38))
          (repeat (revert zz_37))
          (repeat (revert zz_36))
          (repeat (revert zz_35))
          (repeat (revert zz_34))
          (repeat (revert zz_33))
          (repeat (revert zz_32))
          (repeat (revert zz_31))
          (repeat (revert zz_30))
          (repeat (revert zz_29))
          (repeat (revert zz_28))
          (repeat (revert zz_27))
          (repeat (revert zz_26))
          (repeat (revert zz_25))
          (repeat (revert zz_24))
          (repeat (revert zz_23))
          (repeat (revert zz_22))
          (repeat (revert zz_21))
          (repeat (revert zz_20))
          (repeat (revert zz_19))
          (repeat (revert zz_18))
          (repeat (revert zz_17))
          (repeat (revert zz_16))
          (repeat (revert zz_15))
          (repeat (revert zz_14))
          (repeat (revert zz_13))
          (repeat (revert zz_12))
          (repeat (revert zz_11))
          (repeat (revert zz_10))
          (repeat (revert zz_9))
          (repeat (revert zz_8_1))
          (repeat (revert zz_7_1))
          (repeat (revert zz_6_1))
          (repeat (revert zz_5_1))
          (repeat (revert zz_4_1))
          (repeat (revert zz_3_1))
          (repeat (revert zz_2_1))
          (repeat (revert a))
          (repeat (revert zz_1_1))
          (repeat (revert zz_8))
          (repeat (revert w0_1))
          (repeat (revert zz_7))
          (repeat (revert zz_6))
          (repeat (revert zz_5))
          (repeat (revert zz_4))
          (repeat (revert zz_3))
          (repeat (revert zz_2))
          (repeat (revert zz_1))
          (repeat (revert zz))
          (repeat (revert w0))
          (repeat (rename_i zz; revert zz))
          exact hQ.down)))
theorem tn4 : ck3.1 := by
  intro w0
  w_strict (
    set_option tactic.hygienic false in intros
    k_fill
    obtain ⟨tN, uT, vT, rfl, rfl⟩ := HJ
    (try dsimp only)
    have hnm0 := iter_len (stepR_len bt) (n := bt.length + 1) (x := [])
    have hnm := iter_len (stepL_len bt) (n := iT) (x := iter (stepR bt) (bt.length + 1) [])
    obtain ⟨nm, hnE⟩ : ∃ nm, nm = iter (stepL bt) iT (iter (stepR bt) (bt.length + 1) []) := ⟨_, rfl⟩
    rw [← hnE] at FT hnm
    have hnl : (wt nm).length ≤ 14 := by rw [wt_len]; rw [List.length_nil] at hnm0; omega
    k_steps
    refine of_hold ?_
    with_unfolding_all refine' left_n (cs' := [false :: nm, true :: nm]) ?j1 ?j2 ?j3 ?j4 ?j5 ?j6 ?j7 ?j8 hgu hga ?j9 hav ?j10 ?j11 ?j12 ?j13 ?j14 ?_
    (case j1 => exact K0)
    (case j2 => k_asm)
    (case j3 => k_asm)
    (case j4 => k_asm)
    (case j5 => exact rfl)
    (case j6 => ktr_room)
    (case j7 => ktr_units)
    (case j8 => exact ⟨News.get (by assumption) (by k_mem), rfl, rfl, News.get (by assumption) (by k_mem)⟩)
    (case j9 => is_list)
    (case j10 => omega)
    (case j11 => is_list)
    (case j12 => (rw [let_a, let_b, wt_append, wt_append]; exact two_wt))
    (case j13 => exact two_all (cons_len (by rw [wt_len] at hnl; omega)) (cons_len (by rw [wt_len] at hnl; omega)))
    (case j14 => exact (by omega : 2 ≤ 100000))
    intro D5 zs c5 h5 tk5 hU hD5 hzs hD5n
    with_reducible rename Fr _ _ _ _ => F6
    with_reducible rename News _ _ _ _ => N6
    have hne5 := fresh_all N6 hD5n
    simp only [List.mem_cons, List.not_mem_nil, or_false, forall_eq_or_imp, forall_eq] at hne5
    have F7 := fr_up F6 hU
    have N7 := news_add F6 (news_up N6 hU) hD5 hD5n
    clear F6 N6 hU hD5 hD5n
    rcases left_two hzs with ⟨i1, t1, r1, e1, hr1⟩ | ⟨i1, i2, t1, e1⟩ | ⟨i1, i2, e1⟩
    all_goals subst e1
    all_goals (try dsimp only)
    all_goals k_steps
    all_goals (with_reducible rename Fr _ _ _ _ => F12)
    all_goals (with_reducible rename News _ _ _ _ => N12)
    all_goals (simp only [List.mem_cons, List.not_mem_nil, or_false, forall_eq_or_imp, forall_eq] at hIT)
    · refine UnrEnd.intro F12 N12 _ ?sub ?off ⟨t1, some (.int (0 + (iT : Int) * 1) tT), some (.ref D5), mapS_iter (iter_step hnE (stepL_1 i1)), rfl⟩
      (case sub => (intro p hp; (repeat (rcases List.mem_cons.mp hp with hq | hp; · (subst hq; (repeat' (first | exact List.Mem.head _ | refine List.Mem.tail _ ?_))))); exact absurd hp List.not_mem_nil))
      (case off => (intro p hp; (repeat (rcases List.mem_cons.mp hp with hq | hp; · (subst hq; k_ne))); exact absurd hp List.not_mem_nil))
    · refine UnrEnd.intro F12 N12 _ ?sub ?off ⟨t1, some (.int (0 + (iT : Int) * 1) tT), some (.ref D5), mapS_iter (iter_step hnE (stepL_2 i1 i2)), rfl⟩
      (case sub => (intro p hp; (repeat (rcases List.mem_cons.mp hp with hq | hp; · (subst hq; (repeat' (first | exact List.Mem.head _ | refine List.Mem.tail _ ?_))))); exact absurd hp List.not_mem_nil))
      (case off => (intro p hp; (repeat (rcases List.mem_cons.mp hp with hq | hp; · (subst hq; k_ne))); exact absurd hp List.not_mem_nil))
    · refine UnrEnd.intro F12 N12 _ ?sub ?off ⟨tN, some (.int (0 + (iT : Int) * 1) tT), some (.ref D5), mapS_iter (iter_step hnE (stepL_3 i1 i2)), rfl⟩
      (case sub => (intro p hp; (repeat (rcases List.mem_cons.mp hp with hq | hp; · (subst hq; (repeat' (first | exact List.Mem.head _ | refine List.Mem.tail _ ?_))))); exact absurd hp List.not_mem_nil))
      (case off => (intro p hp; (repeat (rcases List.mem_cons.mp hp with hq | hp; · (subst hq; k_ne))); exact absurd hp List.not_mem_nil)))
theorem dn4 : ck3.2.1 := by
  intro w0
  w_strict (
    set_option tactic.hygienic false in intros
    k_fill
    obtain ⟨tN, uT, vT, rfl, rfl⟩ := HJ
    rw [show iter (stepL bt) (bt.length + 1) (iter (stepR bt) (bt.length + 1) []) = bt from recon_eq hTl.1] at FT
    (try dsimp only)
    k_steps
    refine of_hold ?_
    refine comp2_use (by with_unfolding_all rfl) (by rfl) (by rfl) (by with_unfolding_all rfl) (by decide) (by rfl) (by decide) (by rfl) (by rfl) (by decide) ?_
    k_steps
    have hbl : (wt bt).length ≤ 6 := by rw [wt_len]; exact hTl.1
    with_reducible rename Fr _ _ _ _ => F8
    with_reducible rename News _ _ _ _ => N8
    refine ⟨_, _, _, _, _, _, PieceRow bt, src_range (n := bt.length + 1) rfl (by assumption) (small_one (by decide) (by decide) (by omega) (by omega)) size_zero, by omega, rfl, (by k_asm), (by k_asm), ?hib, ?hdb⟩
    (case hib =>
      intro i v C oC m₂ s₃ E' hv hC hm F3 N3 hlt
      obtain ⟨hi, t, e⟩ := hv
      subst e
      k_steps
      refine ⟨⟨_, _, rfl, by assumption⟩, _, _, fun _ => true, PieceEl (wt bt) (0 + (i : Int) * 1), srcIn_range (n := bt.length + 1 - i) rfl (by assumption) (small_one (by omega) (by omega) (by omega) (by omega)) (size_in (by omega)), by omega, ?it, ?ie, ?iff⟩
      (case it => exact fun j u oC2 m5 s5 E5 hu hC5 hmx hmy F5 N5 => wpAny_tests_nil ⟨rfl, _, _, rfl, fun b o e => e⟩)
      (case ie =>
        intro j u oC2 m5 s5 E5 hu hpu hC5 hmx hmy F5 N5
        obtain ⟨hj, t5, e⟩ := hu
        subst e
        have cE5 := InElt.start s5.heap
        k_steps
        · exact ⟨_, _, _, rfl, rfl⟩
        · exact ⟨_, _, rfl, by assumption⟩)
      (case iff => exact fun vs2 ws h1 h2 h3 => ⟨i, t, rfl, by omega, piece_row (by omega) h1 (Nat.le_refl _) h2 (by rwa [List.filter_eq_self.mpr (fun _ _ => rfl)] at h3)⟩))
    (case hdb =>
      intro D4 h4 tk4 ys4 hys4 F4 N4 hD hDn hst
      obtain ⟨vs4, wss4, hlen4, hitems4, hP4, rfl⟩ := hys4
      have hpc : Strs wss4.flatten ((pieces bt).map wt) := pieces_of hlen4 (fun j v hj => (hitems4 j v hj).2) hP4
      obtain ⟨c4, hDo⟩ := hD
      have hne4 := fresh_all N8 hDn
      simp only [List.mem_cons, List.not_mem_nil, or_false, forall_eq_or_imp, forall_eq] at hne4
      have N9 := news_add F8 N4 hDo hDn
      clear F8 N8 N4 hDo hDn hst hP4 hitems4
      (try dsimp only)
      k_steps
      refine for_cell (z := Str.ofString "word") (by rfl) (by rfl) (by rfl) (by rfl) ?_
      k_steps
      with_reducible rename IntsAre _ (List.take 12 _) => hI12
      with_reducible rename Fr _ _ _ _ => F10
      with_reducible rename News _ _ _ _ => N10
      have hne := pick3_ne N10 (by assumption) (fun _ h => nomatch h) (fun _ h => nomatch h) (fun _ h => nomatch h) (fun _ h => nomatch h) (fun _ h => nomatch h)
      refine ⟨_, _, _, _, _, _, _, _, rfl, F10, pick3 N10, by assumption, hne, .head _, by is_list, ?turn, ?done⟩
      (case done =>
        intro u5 h5 tk5 F5 N5
        (try dsimp only)
        k_steps)
      (case turn =>
        intro i5 v5 I5 oI5 oT5 u5 h5 tk5 hv5 hoT5 F5 N5 hI5
        obtain ⟨n5, t5, hx5, e⟩ := ints_get hI12 hv5
        subst e
        (try dsimp only)
        k_steps
        refine of_hold ?_
        refine comp_at (by with_unfolding_all rfl) (by decide) (by rfl) (by decide) (by rfl) ?_
        k_steps
        have hw0 : 0 ≤ n5.fmod 10 := Int.fmod_nonneg_of_pos n5 (by decide)
        have hw9 : n5.fmod 10 < 10 := Int.fmod_lt_of_pos n5 (by decide)
        obtain ⟨N, hN, hN9⟩ : ∃ N : Nat, n5.fmod 10 = (N : Int) ∧ N ≤ 9 := ⟨(n5.fmod 10).toNat, by omega, by omega⟩
        refine ⟨N, _, _, _, _, _, fun _ => true, IsQ, src_range (n := N) rfl (by assumption) ?hs1 ?hs2, by rw [sizeLine_eq]; omega, (by k_asm), (by k_asm), ?ht, ?he, ?hd⟩
        (case hs1 => exact small_one (by decide) (by decide) (by omega) (by omega))
        (case hs2 => (rw [hN]; exact size_one (a := 0) (Nat.zero_le N)))
        (case ht => exact fun i v C oC m₂ s₃ E' hv hC hm F3 N3 hlt => wpAny_tests_nil ⟨rfl, _, _, rfl, fun _ _ e => e⟩)
        (case he =>
          intro i v C oC m₂ s₃ E' hv hp hC hm F3 N3 hlt
          obtain ⟨hi, t, e⟩ := hv
          subst e
          have : i = 0 ∨ i = 1 ∨ i = 2 ∨ i = 3 ∨ i = 4 ∨ i = 5 ∨ i = 6 ∨ i = 7 ∨ i = 8 := by omega
          rcases this with rfl | rfl | rfl | rfl | rfl | rfl | rfl | rfl | rfl
          all_goals (try simp only [Int.natCast_zero, Int.zero_mul, Int.add_zero, Int.natCast_one, Int.one_mul, Int.zero_add] at hm)
          all_goals k_steps
          all_goals first
            | exact is_q
            | exact ⟨_, _, rfl, fun _ _ e => e⟩)
        (case hd =>
          intro D h2 tk2 vs' ys hlen hitems F2 N2 hD hDn hst hP
          rw [List.filter_eq_self.mpr (fun _ _ => rfl)] at hP
          obtain ⟨qs6, hql6, hqs6⟩ := qs_of hP
          have hql : qs6.length ≤ 9 := by omega
          have hDl := hD.isList
          k_steps
          refine join_listC hDl hqs6 (by decide) (by rw [st_sum, List.length_map]; omega) fun t3 k3 => ?_
          rw [st_join]
          (try dsimp only)
          (try k_fold)
          k_steps
          refine of_hold ?_
          obtain ⟨wb, hwb⟩ : ∃ wb, wb = bitsOf qs6 := ⟨_, rfl⟩
          with_unfolding_all refine' applies_c ?j1 ?j2 ?j3 ?j4 ?j5 ?j6 ?j7 ?j8 hgu ?j9 ?j10 hav ?j11 ?_
          (case j1 => exact K0)
          (case j2 => k_asm)
          (case j3 => k_asm)
          (case j4 => k_asm)
          (case j5 => exact rfl)
          (case j6 => ktr_room)
          (case j7 => ktr_units)
          (case j8 => exact ⟨News.get (by assumption) (by k_mem), rfl, rfl, News.get (by assumption) (by k_mem)⟩)
          (case j9 => rw [st_len]; omega)
          (case j10 => is_list)
          (case j11 => exact agents_len fun a ha => Nat.le_trans (lac_mem.mp ha).2.1 (by omega))
          intro h9 tk9 hst9
          rw [show (agents ((lacW bt (bt.length + 1)).map wt)).any (hits (st qs6)) = !isIn wb bt from by rw [hwb]; exact word_ask bt qs6]
          with_reducible rename Fr _ _ _ _ => F8
          with_reducible rename News _ _ _ _ => N8
          have F9 := F8.keeps hst9
          have N9 := N8.grown hst9
          (try simp only [List.cons_append, List.nil_append] at N9)
          clear F8 N8
          (try dsimp only)
          k_steps
          · exact (word_absurd (by assumption)).elim
          · refine InvEnd.intro F9 N9 ?sub ?_
            (case sub => (intro p hp; (repeat (rcases List.mem_cons.mp hp with hq | hp; · (subst hq; (repeat' (first | exact List.Mem.head _ | refine List.Mem.tail _ ?_))))); exact absurd hp List.not_mem_nil))
            (intro y hy; simp [hy])))))
end Mine
theorem PySem.Challenge.cw_ij0195_01_holds : PySem.Challenge.rw_ij0195_01.Holds :=
  Mine.ck1.2.2 ⟨Mine.tn1⟩ ⟨Mine.ck2.2.2 ⟨Mine.tn3⟩ ⟨Mine.ck3.2.2 ⟨Mine.tn4⟩ ⟨Mine.dn4⟩⟩⟩
end
