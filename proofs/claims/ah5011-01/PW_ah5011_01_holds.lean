import PyProof.Rows.All
import Wide.All
import OpenK.AllK
import Wide.FinOn
import PySem.Challenge.RW_ah5011_01
open PySem PySem.W PyProof.Rows
set_option Elab.async false
set_option maxRecDepth 100000
set_option maxHeartbeats 8000000
namespace Mine
open_top hd for PySem.Challenge.rw_ah5011_01
open PySem.Spec PySem.Calls PySem.SeqAt
section
abbrev P0 := PySem.Challenge.pw_ah5011_01
abbrev M4 := Int × Int × Int × Int
abbrev inf : M4 := (0, 0, -456, -2)
abbrev ninf : M4 := (1, 0, -789, -3)
abbrev nan : M4 := (0, 0, -123, -1)
abbrev zero : M4 := (0, 0, 0, 0)
abbrev one : M4 := (0, 1, 0, 1)

/-- the object of a tuple of four ints -/
abbrev ob4 (x : M4) (ta tb tc td : Tok) : Obj := { cls := .type "tuple", data := .seq #[.int x.1 ta, .int x.2.1 tb, .int x.2.2.1 tc, .int x.2.2.2 td] }
abbrev it4 (x : M4) (ta tb tc td : Tok) : Array Value := #[.int x.1 ta, .int x.2.1 tb, .int x.2.2.1 tc, .int x.2.2.2 td]
def IsM (h : Heap) (r : Addr) (x : M4) : Prop := ∃ ta tb tc td, IsTup h r (it4 x ta tb tc td)
abbrev dat4 (x : M4) : PyData := .tuple [.int x.1, .int x.2.1, .int x.2.2.1, .int x.2.2.2]

/-- an infinity, or what is no number -/
def spM (x : M4) : Prop := x.2.1 = 0 ∧ x.2.2.1 ≠ 0
/-- a number of the law's rows -/
def Ok (x : M4) : Prop := x = inf ∨ x = ninf ∨ x = nan ∨ x = zero ∨ ((x.1 = 0 ∨ x.1 = 1) ∧ 0 < x.2.1 ∧ x.2.1 < 2097152 ∧ -9 ≤ x.2.2.1 ∧ x.2.2.1 ≤ 9)
theorem Ok.facts {x : M4} (h : Ok x) : (x.1 = 0 ∨ x.1 = 1) ∧ 0 ≤ x.2.1 ∧ x.2.1 < 2097152 ∧ -789 ≤ x.2.2.1 ∧ x.2.2.1 ≤ 9 := by
  rcases h with rfl | rfl | rfl | rfl | h <;> first | decide | omega
theorem Ok.sp {x : M4} (h : Ok x) (h2 : x.2.1 = 0) (h3 : x.2.2.1 ≠ 0) : x = inf ∨ x = ninf ∨ x = nan := by
  rcases h with h | h | h | rfl | h
  · exact .inl h
  · exact .inr (.inl h)
  · exact .inr (.inr h)
  · exact absurd rfl h3
  · omega
theorem Ok.zr {x : M4} (h : Ok x) (h2 : x.2.1 = 0) (h3 : x.2.2.1 = 0) : x = zero := by
  rcases h with rfl | rfl | rfl | h | h
  · exact absurd h3 (by decide)
  · exact absurd h3 (by decide)
  · exact absurd h3 (by decide)
  · exact h
  · omega

/-- the facts around a call -/
structure Nice (n : Nat) (A : Around) : Prop where
  dep : A.depth + n < recursionLimit
  un : A.units + 8 * n + 200 < cLine
  hh : A.handled = none

theorem Nice.deeper {n : Nat} {A : Around} {env : Env} (C : Nice (n + 1) A) : Nice n (A.deeper env) :=
  ⟨by show A.depth + 1 + n < _; have := C.dep; omega, by show A.units + 3 + 8 * n + 200 < _; have := C.un; omega, C.hh⟩
theorem Nice.less {n k : Nat} {A : Around} (C : Nice n A) (h : k ≤ n) : Nice k A := ⟨by have := C.dep; omega, by have := C.un; omega, C.hh⟩
theorem Nice.room1 {n : Nat} {A : Around} (C : Nice n A) : A.units + 65 < cLine := by have := C.un; omega
theorem Nice.room {n : Nat} {A : Around} (C : Nice n A) : A.units + 64 < cLine := by have := C.un; omega

section
variable {h h' h₀ : Heap} {r L : Addr} {x : M4} {m : Str → Option Value} {news : List (Addr × Obj)} {ta tb tc td : Tok}
theorem IsM.stay (k : h.StaysIn h') (I : IsM h r x) : IsM h' r x := let ⟨a, b, c, d, e⟩ := I; ⟨a, b, c, d, IsTup.keeps e k⟩
theorem IsM.cast {y : M4} (I : IsM h r x) (e : x = y) : IsM h r y := e ▸ I
theorem IsM.reads (I : IsM h r x) : Reads h (.ref r) (dat4 x) [] := by
  obtain ⟨a, b, c, d, o, ho, hc, n, hd⟩ := I
  exact Reads.tuple ho hc hd (.cons (.int _ _) (.cons (.int _ _) (.cons (.int _ _) (.cons (.int _ _) .nil))))
theorem IsM.of_news (N : News h₀ L h news) (hm : (r, ob4 x ta tb tc td) ∈ news) : IsM h r x := ⟨_, _, _, _, News.isTup N hm⟩
theorem IsM.of_tup (T : IsTup h r (it4 x ta tb tc td)) : IsM h r x := ⟨_, _, _, _, T⟩
theorem IsM.of_K {K : Frag} (X : K.In h) {oo : Obj} (e : K.lookup r = some oo) (e2 : oo = ob4 x ta tb tc td) : IsM h r x := ⟨_, _, _, _, by subst e2; exact ⟨_, X _ _ e, rfl, _, rfl⟩⟩
theorem inf_at {P : Params} (X : (hd.heap_39 P).In h) : IsM h 59 inf := ⟨_, _, _, _, ⟨_, X 59 _ rfl, rfl, _, rfl⟩⟩
theorem ninf_at {P : Params} (X : (hd.heap_39 P).In h) : IsM h 60 ninf := ⟨_, _, _, _, ⟨_, X 60 _ rfl, rfl, _, rfl⟩⟩
theorem nan_at {P : Params} (X : (hd.heap_39 P).In h) : IsM h 58 nan := ⟨_, _, _, _, ⟨_, X 58 _ rfl, rfl, _, rfl⟩⟩
theorem zero_at {P : Params} (X : (hd.heap_39 P).In h) : IsM h 56 zero := ⟨_, _, _, _, ⟨_, X 56 _ rfl, rfl, _, rfl⟩⟩
theorem one_at {P : Params} (X : (hd.heap_39 P).In h) : IsM h 57 one := ⟨_, _, _, _, ⟨_, X 57 _ rfl, rfl, _, rfl⟩⟩
/-- the object is a tuple of these four ints -/
def Ob4 (o : Obj) (x : M4) : Prop := o.cls = .type "tuple" ∧ ∃ ta tb tc td n, o.data = .seq (it4 x ta tb tc td) n
theorem IsM.of_newsO {o : Obj} (N : News h₀ L h news) (hm : (r, o) ∈ news) (hO : Ob4 o x) : IsM h r x := by
  obtain ⟨hc, a, b, c, d, n, e⟩ := hO
  exact ⟨a, b, c, d, o, N.get hm, hc, n, e⟩
/-- a result that is to be kept stands below, or it is new -/
theorem IsM.place (F : Fr h₀ L h m) (N : News h₀ L h news) (I : IsM h r x) : IsM h₀ r x ∨ ∃ o, News h₀ L h ((r, o) :: news) ∧ Ob4 o x := by
  obtain ⟨a, b, c, d, o, ho, hc, n, e⟩ := I
  cases q : h₀.get? r with
  | some o' =>
    have := F.keep _ _ q
    rw [ho] at this; cases this
    exact .inl ⟨a, b, c, d, o, q, hc, n, e⟩
  | none =>
    refine .inr ⟨o, fun p hp => ?_, hc, a, b, c, d, n, e⟩
    rcases List.mem_cons.mp hp with rfl | hp
    · refine ⟨ho, fun z => ?_, q⟩
      obtain ⟨⟨oL, es, ep, hL, hd, _⟩, _, _⟩ := F
      have z' : r = L := z
      rw [z', hL] at ho; cases ho
      rw [hd] at e; cases e
    · exact N p hp
theorem isM_ref_ne {y : M4} {b : Addr} (I : IsM h r x) (J : IsM h b y) (n : x ≠ y) : r ≠ b := by
  rintro rfl
  obtain ⟨a, b, c, d, o, ho, hc, k, hd⟩ := I
  obtain ⟨a', b', c', d', o', ho', hc', k', hd'⟩ := J
  rw [ho] at ho'; cases ho'
  rw [hd] at hd'
  simp only [it4, PySem.Data.seq.injEq] at hd'
  have e := hd'.1
  simp at e
  apply n
  obtain ⟨x1, x2, x3, x4⟩ := x
  obtain ⟨y1, y2, y3, y4⟩ := y
  simp_all
theorem eqv4 (x y : M4) : PyData.eqv (dat4 x) (dat4 y) = decide (x = y) := by
  obtain ⟨x1, x2, x3, x4⟩ := x
  obtain ⟨y1, y2, y3, y4⟩ := y
  simp only [PyData.eqv, PyData.eqvAll, Bool.and_true]
  rw [Bool.eq_iff_iff]
  simp only [Bool.and_eq_true, beq_iff_eq, decide_eq_true_eq, Prod.mk.injEq]
theorem shaped4 (x : M4) : SeqAt.shaped (dat4 x) = true := by
  simp [SeqAt.shaped, PyData.canLay0, PyData.canLayAll0, PyData.depth, PyData.depthAll]
end

theorem Fr.stay {h₀ h h' : Heap} {L : Addr} {m : Str → Option Value} (F : Fr h₀ L h m) (k : h.StaysIn h') : Fr h₀ L h' m :=
  let ⟨⟨o, a, b, c, d⟩, e, f⟩ := F
  ⟨⟨o, a, b, k _ _ c, d⟩, fun x y z => k _ _ (e x y z), f⟩
theorem News.stay {h₀ h h' : Heap} {L : Addr} {news : List (Addr × Obj)} (N : News h₀ L h news) (k : h.StaysIn h') : News h₀ L h' news :=
  fun p hp => ⟨k _ _ (N p hp).1, (N p hp).2⟩
/-- new things: a call has made them -/
def Made (h h' : Heap) (l : List (Addr × Obj)) : Prop := ∀ p ∈ l, h'.get? p.1 = some p.2 ∧ h.get? p.1 = none
theorem News.made {h₀ h h' : Heap} {L : Addr} {m : Str → Option Value} {news l : List (Addr × Obj)} (F : Fr h₀ L h m) (N : News h₀ L h news) (k : h.StaysIn h') (M : Made h h' l) : News h₀ L h' (l ++ news) := fun p hp => by
  rcases List.mem_append.mp hp with hp | hp
  · refine ⟨(M p hp).1, fun e => ?_, ?_⟩
    · obtain ⟨⟨o, _, _, c, _⟩, _, _⟩ := F
      have := (M p hp).2
      rw [e, c] at this
      cases this
    · cases q : h₀.get? p.1 with
      | none => rfl
      | some o => have := F.keep _ _ q; rw [(M p hp).2] at this; cases this
  · exact News.stay N k p hp
theorem Made.of {h₀ h : Heap} {L : Addr} {news l : List (Addr × Obj)} (N : News h₀ L h news) (s : ∀ p ∈ l, p ∈ news) : Made h₀ h l := fun p hp => ⟨(N p (s p hp)).1, (N p (s p hp)).2.2⟩

theorem Made.one {h₀ h : Heap} {L r : Addr} {news : List (Addr × Obj)} {y y' : M4} {a b c d : Tok} (N : News h₀ L h news) (m : (r, ob4 y a b c d) ∈ news) (e : y = y') : Made h₀ h [(r, ob4 y' a b c d)] := fun p hp => by
  subst e
  rcases List.mem_singleton.mp hp with rfl
  exact ⟨(N _ m).1, (N _ m).2.2⟩

section
variable {prog : Program} {w : World} {A : Around} {E : Value → Shared → Prop} {s : Shared} {K : Frag} {Q : Value → Shared → Prop} {a b l : Addr} {x y : M4}

/-- the arguments as they are bound, told by hand -/
def Binds (_ : List (Str × Value)) : Prop := True

/-- the arguments' binding, whatever their number -/
def BindsAt (K : Frag) (f : Addr) (s : Shared) (vs : List Value) (binds : List (Str × Value)) : Prop := ∀ oc od fd osl, K.lookup f = some ⟨oc, od, .func fd, osl⟩ → BindsTo s fd ⟨vs, []⟩ binds
theorem BindsAt.at {f : Addr} {vs : List Value} {binds : List (Str × Value)} {oc : Value} {od : Option Addr} {fd : FuncData} {osl : Array (Option Value)} (H : BindsAt K f s vs binds) (e : K.lookup f = some ⟨oc, od, .func fd, osl⟩) : BindsTo s fd ⟨vs, []⟩ binds := H _ _ _ _ e

theorem bindsAt_of {f : Addr} {vs : List Value} {binds : List (Str × Value)} {oc : Value} {od : Option Addr} {fd : FuncData} {osl : Array (Option Value)} (e : K.lookup f = some ⟨oc, od, .func fd, osl⟩) (h : BindsTo s fd ⟨vs, []⟩ binds) : BindsAt K f s vs binds :=
  fun _ _ _ _ e' => by rw [e] at e'; cases e'; exact h

theorem enter {p : Program} {loose : List Str} {mg mb : Str → Option Value} {name qual : Str} {params : Arguments} {body : List Stmt} {scope : Scope} {dV kV doc pm cdv ct oc : Value} {an od : Option Addr} {osl : Array (Option Value)} {f : Addr} {vs : List Value} {binds : List (Str × Value)}
    {n : Nat} (hB0 : Binds binds) (X : K.In s.heap) (T : TopRead p loose mg mb s.heap) (C : Nice (n + 1) A)
    (ho : K.lookup f = some ⟨oc, od, .func (fnOf name qual params body scope dV kV doc pm an cdv ct), osl⟩) (hcd : codeIn K cdv qual = true)
    (hbind : BindsTo s (fnOf name qual params body scope dV kV doc pm an cdv ct) ⟨vs, []⟩ binds) (hloc : ∀ y ∈ binds, scope.names.lookup y.1 = some .local)
    (h : ∀ L h₁ tk, Fr s.heap L h₁ (fun y => binds.reverse.lookup y) → News s.heap L h₁ [] → Nice n (A.deeper (envOf qual scope L f cdv)) →
      wpAny (model prog w) (A.deeper (envOf qual scope L f cdv)) (execs body (envOf qual scope L f cdv))
        (fun fl s' => Q (match fl with | .ret v => v | _ => .none) s') (fun _ _ => False)
        ⟨h₁, s.gens, s.drawn, tk, s.os⟩)
    (hco : scope.isCoroutine = false := by rfl) (hgen : scope.isGenerator = false := by rfl) (hk : scope.kind = .function := by rfl)
    (hcell : ∀ x ∈ scope.names, x.2 ≠ .cell := by decide) : wpAny (model prog w) A (call (.ref f) vs) Q E s := by
  refine wpAny_call (codeAny_call_def (fd := fnOf name qual params body scope dV kV doc pm an cdv ct) (body := body) (binds := binds) (by have := C.dep; omega) (X _ _ ho) rfl T.nolimit (codeRec_of X hcd) rfl hbind hcell hloc (fun h₁ hns hk₁ => ?_) hco hgen hk)
  exact wpAny_mono (h _ h₁ _ ⟨hns, hk₁, Nat.le_refl _⟩ News.nil C.deeper) (fun _ _ q => q) (fun _ _ q => q.elim)

theorem eqM (I : IsM s.heap a x) (J : IsM s.heap b y) (hu : A.units + 64 < cLine) (h1 : x = y → Q (.bool true) s) (h2 : x ≠ y → Q (.bool false) s) : wpAny (model prog w) A (compareOp .Eq (.ref a) (.ref b)) Q E s :=
  eq_dataH I.reads J.reads (shaped4 _) (shaped4 _) hu (by
    rw [eqv4]
    by_cases e : x = y
    · rw [decide_eq_true e]; exact h1 e
    · rw [decide_eq_false e]; exact h2 e)
theorem neM (I : IsM s.heap a x) (J : IsM s.heap b y) (hu : A.units + 64 < cLine) (h1 : x = y → Q (.bool false) s) (h2 : x ≠ y → Q (.bool true) s) : wpAny (model prog w) A (compareOp .NotEq (.ref a) (.ref b)) Q E s :=
  ne_dataH I.reads J.reads (shaped4 _) (shaped4 _) hu (by
    rw [eqv4]
    by_cases e : x = y
    · rw [decide_eq_true e]; exact h1 e
    · rw [decide_eq_false e]; exact h2 e)
theorem eqAtM {A : Around} (I : IsM s.heap a x) (J : IsM s.heap b y) (hu : A.units + 64 < cLine) : EqAt A s (.ref a) (.ref b) (decide (x = y)) := by
  rw [← eqv4]
  exact eqAt_reads _ _ A s _ _ _ _ I.reads J.reads (canLay_of_shaped (shaped4 _)) (canLay_of_shaped (shaped4 _)) (room_of_shaped (shaped4 _) hu)

theorem item4_0 {value slice : PySem.Expr} {u : Tok} (I : IsM s.heap a x) (h : ∀ t, Q (.int x.1 t) s)
    (hs : subscripted slice false (.ref a) (.int 0 u) = operate [.ref a, .int 0 u] (getItem (.ref a) (.int 0 u)) := by with_unfolding_all rfl) :
    wpAny (model prog w) A (subscriptTail value slice (.ref a) (.int 0 u)) Q E s := by
  obtain ⟨_, _, _, _, T⟩ := I
  exact item_tupleT (j := 0) T (by decide) (by decide) rfl rfl (h _) hs
theorem item4_1 {value slice : PySem.Expr} {u : Tok} (I : IsM s.heap a x) (h : ∀ t, Q (.int x.2.1 t) s)
    (hs : subscripted slice false (.ref a) (.int 1 u) = operate [.ref a, .int 1 u] (getItem (.ref a) (.int 1 u)) := by with_unfolding_all rfl) :
    wpAny (model prog w) A (subscriptTail value slice (.ref a) (.int 1 u)) Q E s := by
  obtain ⟨_, _, _, _, T⟩ := I
  exact item_tupleT (j := 1) T (by decide) (by decide) rfl rfl (h _) hs
theorem item4_2 {value slice : PySem.Expr} {u : Tok} (I : IsM s.heap a x) (h : ∀ t, Q (.int x.2.2.1 t) s)
    (hs : subscripted slice false (.ref a) (.int 2 u) = operate [.ref a, .int 2 u] (getItem (.ref a) (.int 2 u)) := by with_unfolding_all rfl) :
    wpAny (model prog w) A (subscriptTail value slice (.ref a) (.int 2 u)) Q E s := by
  obtain ⟨_, _, _, _, T⟩ := I
  exact item_tupleT (j := 2) T (by decide) (by decide) rfl rfl (h _) hs
theorem item4_3 {value slice : PySem.Expr} {u : Tok} (I : IsM s.heap a x) (h : ∀ t, Q (.int x.2.2.2 t) s)
    (hs : subscripted slice false (.ref a) (.int 3 u) = operate [.ref a, .int 3 u] (getItem (.ref a) (.int 3 u)) := by with_unfolding_all rfl) :
    wpAny (model prog w) A (subscriptTail value slice (.ref a) (.int 3 u)) Q E s := by
  obtain ⟨_, _, _, _, T⟩ := I
  exact item_tupleT (j := 3) T (by decide) (by decide) rfl rfl (h _) hs

/-- the items of a list or a tuple of tuples of four -/
inductive AreM (h : Heap) : List Value → List M4 → Prop
  | nil : AreM h [] []
  | cons {r x vs xs} : IsM h r x → AreM h vs xs → AreM h (.ref r :: vs) (x :: xs)
theorem AreM.stay {h h' : Heap} (k : h.StaysIn h') : ∀ {vs : List Value} {xs : List M4}, AreM h vs xs → AreM h' vs xs
  | _, _, .nil => .nil
  | _, _, .cons I r => .cons (I.stay k) (r.stay k)
/-- what an item's comparison with y gives: a choice function over the values -/
noncomputable def valM (h : Heap) (y : M4) (v : Value) : Bool := by
  exact @decide (∃ r, v = .ref r ∧ IsM h r y) (Classical.propDecidable _)
theorem isM_inj {h : Heap} {r : Addr} (I : IsM h r x) (J : IsM h r y) : x = y := by
  apply Classical.byContradiction
  intro n
  exact isM_ref_ne I J n rfl
theorem valM_of {h : Heap} {r : Addr} (I : IsM h r x) : valM h y (.ref r) = decide (x = y) := by
  unfold valM
  by_cases e : x = y
  · subst e; rw [decide_eq_true (Eq.refl x)]; exact @decide_eq_true _ (Classical.propDecidable _) ⟨_, rfl, I⟩
  · rw [decide_eq_false e]
    exact @decide_eq_false _ (Classical.propDecidable _) fun ⟨r', e', J⟩ => by
      cases e'
      exact e (isM_inj I J)
theorem any_valM {h : Heap} : ∀ {vs : List Value} {xs : List M4}, AreM h vs xs → vs.any (valM h y) = decide (y ∈ xs)
  | _, _, .nil => by simp
  | _, _, .cons (x := x) (xs := xs) I r => by
    rw [List.any_cons, valM_of I, any_valM r]
    by_cases e : x = y
    · subst e; simp
    · have : ¬ y = x := fun q => e q.symm
      simp [e, this]
theorem mem_valM {h : Heap} : ∀ {vs : List Value} {xs : List M4}, AreM h vs xs → ∀ v ∈ vs, ∃ r x, v = .ref r ∧ IsM h r x
  | _, _, .cons I _, _, .head _ => ⟨_, _, rfl, I⟩
  | _, _, .cons _ r, _, .tail _ m => mem_valM r _ m
theorem inListM {vs : List Value} {xs : List M4} (hl : s.heap.IsList l vs.toArray) (G : AreM s.heap vs xs) (J : IsM s.heap b y) (hu : A.units + 65 < cLine)
    (h1 : y ∈ xs → Q (.bool true) s) (h2 : y ∉ xs → Q (.bool false) s) : wpAny (model prog w) A (compareOp .In (.ref b) (.ref l)) Q E s := by
  refine in_listAt (valM s.heap y) hl (fun v hv => ?_) ?_
  · obtain ⟨r, x, rfl, I⟩ := mem_valM G v (by simpa using hv)
    rw [valM_of I]
    exact eqAtM I J (by show A.units + 1 + 64 < _; omega)
  · rw [List.any_toArray, any_valM G]
    by_cases e : y ∈ xs
    · rw [decide_eq_true e]; exact h1 e
    · rw [decide_eq_false e]; exact h2 e
theorem inTupM {vs : List Value} {xs : List M4} (hl : IsTup s.heap l vs.toArray) (G : AreM s.heap vs xs) (J : IsM s.heap b y) (hu : A.units + 65 < cLine)
    (h1 : y ∈ xs → Q (.bool true) s) (h2 : y ∉ xs → Q (.bool false) s) : wpAny (model prog w) A (compareOp .In (.ref b) (.ref l)) Q E s := by
  refine in_tupleAt (valM s.heap y) hl (fun v hv => ?_) ?_
  · obtain ⟨r, x, rfl, I⟩ := mem_valM G v (by simpa using hv)
    rw [valM_of I]
    exact eqAtM I J (by show A.units + 1 + 64 < _; omega)
  · rw [List.any_toArray, any_valM G]
    by_cases e : y ∈ xs
    · rw [decide_eq_true e]; exact h1 e
    · rw [decide_eq_false e]; exact h2 e
end

section
variable {s : Shared} {g : Array GenState} {d : Drawn} {o : OsState} {Q : Value → Shared → Prop} {h' : Heap} {tk t : Nat}
theorem retI {v v' : Int} (h : ∀ h' tk' t, s.heap.StaysIn h' → Q (.int v t) ⟨h', g, d, tk', o⟩) (k : s.heap.StaysIn h') (e : v' = v) : Q (.int v' t) ⟨h', g, d, tk, o⟩ := e ▸ h _ _ _ k
end

section
variable {prog : Program} {w : World} {M : Model} {A : Around} {E : Value → Shared → Prop} {s : Shared} {h₀ : Heap} {L a : Addr} {m : Str → Option Value} {news : List (Addr × Obj)} {cn : Str} {cs : Scope} {ccd : Value} {cl : List (Str × Addr)} {x : Str} {v : Value}
/-- a store, the tokens forgotten -/
theorem storeT {Q : Unit → Shared → Prop} (F : Fr h₀ L s.heap m) (N : News h₀ L s.heap news)
    (h : ∀ h' tk, Fr h₀ L h' (fun y => if y = x then some v else m y) → News h₀ L h' news → Q () ⟨h', s.gens, s.drawn, tk, s.os⟩)
    (hk : cs.kind = .function := by rfl) (hx : (envX cn cs L a ccd cl).kindOf x = some .local := by rfl) : wpAny M A (storeName (envX cn cs L a ccd cl) x v) Q E s :=
  storeX_L F N (fun h' F' N' => h h' _ F' N') hk hx
theorem newTup4 {Q : Value → Shared → Prop} {i j k n : Int} {ti tj tk tn : Tok} (F : Fr h₀ L s.heap m) (N : News h₀ L s.heap news)
    (h : ∀ D h' ta tb tc td, Fr h₀ L h' m → News h₀ L h' ((D, ob4 (i, j, k, n) ta tb tc td) :: news) → s.heap.StaysIn h' → Q (.ref D) ⟨h', s.gens, s.drawn, s.toks, s.os⟩) :
    wpAny M A (newTuple [.int i ti, .int j tj, .int k tk, .int n tn]) Q E s :=
  wpAny_newObj_type (h _ _ _ _ _ _ (F.push _) (N.push F _) fun _ _ e => Heap.get?_push_of_some _ e) (by show 4 ≤ sizeLine; decide)
theorem unpackM {prog : Program} {w : World} {n : Nat} {y : M4} {env : Env} {elts : List Expr} {k : Nat} {pos : Pos} {t : Addr} {Q : Unit → Shared → Prop} (F : Fr h₀ L s.heap m) (N : News h₀ L s.heap news) (I : IsM s.heap t y) (C : Nice n A)
    (hn : (assignEach elts env).length = 4) (hstar : (assignEach elts env).findIdx? (·.1) = none)
    (h : ∀ h' ta tb tc td, Fr h₀ L h' m → News h₀ L h' news → wpAny (model prog w) A (assignInOrder ((assignEach elts env).map (·.2)) [.int y.1 ta, .int y.2.1 tb, .int y.2.2.1 tc, .int y.2.2.2 td]) Q E ⟨h', s.gens, s.drawn, s.toks, s.os⟩) :
    wpAny (model prog w) A (assign (.Tuple elts k pos) env (.ref t)) Q E s := by
  obtain ⟨ta, tb, tc, td, IT⟩ := I
  exact unpackN_ F N IT C.hh hn hstar fun h' F' N' => h h' ta tb tc td F' N'
end
end
section
local macro_rules | `(tactic| k_mem) => `(tactic| with_reducible assumption)
-- a tuple's fact
local macro_rules | `(tactic| ktr_rel) => `(tactic| first
  | with_reducible assumption
  | exact IsM.of_tup (Fr.tup (by k_asm) (by with_reducible assumption))
  | exact IsM.stay (Fr.keep (by k_asm)) (by with_reducible assumption)
  | exact IsM.of_news (by k_asm) (by k_mem)
  | exact IsM.of_newsO (by k_asm) (by k_mem) (by with_reducible assumption)
  | exact inf_at (by k_in)
  | exact ninf_at (by k_in)
  | exact nan_at (by k_in)
  | exact zero_at (by k_in)
  | exact one_at (by k_in)
  | exact IsM.stay (by with_reducible assumption) (by with_reducible assumption))
-- room
local macro_rules | `(tactic| ktr_room) => `(tactic| first | exact Nice.room (by assumption) | exact Nice.room1 (by assumption))
-- an absurd way
local macro_rules | `(tactic| ktr_unf) => `(tactic| first | exact absurd rfl (by assumption) | skip)
-- entering a def
local macro_rules | `(tactic| kwd_inv) => `(tactic| (
  refine' enter ?B ?X ?T ?C ?ho ?hcd ?hbind ?hloc ?_ ?c2 ?c3 ?c4 ?c5
  (case B => assumption)
  (case X => assumption)
  (case T => exact topRead_of (by assumption))
  (case C => assumption)
  (case ho => k_is)
  (case hcd => k_is)
  (case hbind => first | exact BindsAt.at (by assumption) (by k_is) | exact BindsTo.of_eq rfl | exact binds_K (by assumption) rfl (by k_is) rfl rfl rfl)
  (case hloc => exact locs rfl)
  (case c2 => exact rfl)
  (case c3 => exact rfl)
  (case c4 => exact rfl)
  (case c5 => decide)
  intro L' h' tk' F' N' C'
  (try dsimp only [List.reverse_cons, List.reverse_nil, List.nil_append, List.cons_append])
  (try dsimp only [List.reverse_cons, List.reverse_nil, List.nil_append, List.cons_append] at F')
  (try k_fold)))
-- a store
local macro_rules | `(tactic| walk_at "storeName") => `(tactic| (k_here; k_dflt (refine' storeT ?F ?N ?_ ?a ?b; (case F => k_asm); (case N => k_asm); (case a => rfl); (case b => rfl); k_whole; intro h' tk' F' N'); (try dsimp only); (try k_sweep)))
-- a new tuple of four ints
local macro_rules | `(tactic| walk_at "newTuple") => `(tactic| (k_here; k_dflt (refine' newTup4 ?F ?N ?_; (case F => k_asm); (case N => k_asm); intro D' h' ta' tb' tc' td' F' N' k'); (try dsimp only); (try dsimp only at k'); (try k_sweep)))
-- comparisons
local macro_rules | `(tactic| walk_at "compareOp Eq ref ref") => `(tactic| (k_here; k_dflt (refine' eqM ?I ?J ?u ?_ ?_; (case I => ktr_rel); (case J => ktr_rel); (case u => ktr_room)); (all_goals (intro e'; try tb_start))))
local macro_rules | `(tactic| walk_at "compareOp NotEq ref ref") => `(tactic| (k_here; k_dflt (refine' neM ?I ?J ?u ?_ ?_; (case I => ktr_rel); (case J => ktr_rel); (case u => ktr_room)); (all_goals (intro e'; try tb_start))))
local macro_rules | `(tactic| tb_start) => `(tactic| first | exact absurd rfl (by assumption) | (exfalso; omega) | (exfalso; law_clear; simp_all; done))
-- unpacking
local macro_rules | `(tactic| walk_at "assign Tuple") => `(tactic| (k_here; (with_reducible show wpAny _ _ (assign (Expr.Tuple _ _ _) _ (Value.ref _)) _ _ _); k_dflt (refine' unpackM ?F ?N ?I ?C ?n ?s ?_; (case F => k_asm); (case N => k_asm); (case I => ktr_rel); (case C => assumption); (case n => exact rfl); (case s => exact rfl); intro h' ta' tb' tc' td' F' N'); (try dsimp only); (try k_sweep)))
-- the walk
local macro_rules | `(tactic| kwd_less) => `(tactic| (w_top on; (repeat' (first | (k_unmd; k_unfold; (try dsimp only)) | walk1 | (dsimp only; first | (k_unmd; k_unfold; (try dsimp only)) | walk1) | fail "no step")); (all_goals (try dsimp only))))
local macro_rules | `(tactic| walk_at "assign Tuple") => `(tactic| (k_here; (with_reducible show wpAny _ _ (assign (Expr.Tuple [_, _] _ _) _ (Value.ref _)) _ _ _); k_dflt (refine' unpackN_ ?F ?N ?I ?C ?n ?s ?_; (case F => k_asm); (case N => k_asm); (case I => exact News.isTup (by k_asm) (by k_mem)); (case C => exact Nice.hh (by assumption)); (case n => exact rfl); (case s => exact rfl); intro h' F' N'); (try dsimp only); (try k_sweep)))
local macro_rules | `(tactic| walk_at "unpackItems ref") => `(tactic| (k_here; k_dflt (refine' unpackItemsN_ ?F ?N ?I ?C ?n ?_; (case F => k_asm); (case N => k_asm); (case I => exact News.isTup (by k_asm) (by k_mem)); (case C => exact Nice.hh (by assumption)); (case n => exact rfl); intro h' F' N'); (try dsimp only); (try k_sweep)))
-- an item of a tuple of four
local macro_rules | `(tactic| walk_at "subscriptTail") => `(tactic| (k_here; (with_reducible show wpAny _ _ (subscriptTail _ _ (Value.ref _) (Value.int 0 _)) _ _ _); k_dflt (refine' item4_0 ?I ?_ ?hs; (case I => ktr_rel); (case hs => with_unfolding_all rfl)); k_whole; intro t'; (try dsimp only)))
local macro_rules | `(tactic| walk_at "subscriptTail") => `(tactic| (k_here; (with_reducible show wpAny _ _ (subscriptTail _ _ (Value.ref _) (Value.int 1 _)) _ _ _); k_dflt (refine' item4_1 ?I ?_ ?hs; (case I => ktr_rel); (case hs => with_unfolding_all rfl)); k_whole; intro t'; (try dsimp only)))
local macro_rules | `(tactic| walk_at "subscriptTail") => `(tactic| (k_here; (with_reducible show wpAny _ _ (subscriptTail _ _ (Value.ref _) (Value.int 2 _)) _ _ _); k_dflt (refine' item4_2 ?I ?_ ?hs; (case I => ktr_rel); (case hs => with_unfolding_all rfl)); k_whole; intro t'; (try dsimp only)))
local macro_rules | `(tactic| walk_at "subscriptTail") => `(tactic| (k_here; (with_reducible show wpAny _ _ (subscriptTail _ _ (Value.ref _) (Value.int 3 _)) _ _ _); k_dflt (refine' item4_3 ?I ?_ ?hs; (case I => ktr_rel); (case hs => with_unfolding_all rfl)); k_whole; intro t'; (try dsimp only)))
-- membership
local macro_rules | `(tactic| ktd_rel) => `(tactic| first | exact AreM.nil | (refine' AreM.cons ?a ?b; (case a => ktr_rel); (case b => ktd_rel)))
local macro_rules | `(tactic| walk_at "compareOp In ref ref") => `(tactic| (k_here; k_dflt (first
  | (refine' inListM ?l ?G ?J ?u ?_ ?_; (case l => exact News.isList (by k_asm) (by k_mem)); (case G => ktd_rel); (case J => ktr_rel); (case u => ktr_room))
  | (refine' inTupM ?l ?G ?J ?u ?_ ?_; (case l => exact News.isTup (by k_asm) (by k_mem)); (case G => ktd_rel); (case J => ktr_rel); (case u => ktr_room))); (all_goals (intro e'; (try simp only [List.mem_cons, List.not_mem_nil, or_false] at e'); try tb_start))))
-- a branch that the facts decide
local macro_rules | `(tactic| kwd_rel) => `(tactic| first | with_reducible assumption | (simp only [decide_eq_true_eq, decide_eq_false_iff_not, Bool.not_eq_true, Bool.not_eq_false, bne_iff_ne, beq_iff_eq, bne_eq_false_iff_eq, beq_eq_false_iff_ne, Bool.and_eq_true, Bool.or_eq_true, Bool.not_eq_true', Bool.not_eq_false', ne_eq]; omega) | omega)
local macro_rules | `(tactic| walk_at "ite") => `(tactic| (k_here; k_openite; k_dflt (first | (refine' ite_pos ?c ?_; (case c => kwd_rel)) | (refine' ite_neg ?c ?_; (case c => kwd_rel))); walk_say "CUT"))
-- a dict display by ints
local macro_rules | `(tactic| walk_at "eval Dict") => `(tactic| (k_here; k_dflt (refine' kdn_eval (knd := PySem.intKind _ _) ?F ?N ?b ?a ?l ?e ?n ?_; (case F => k_asm); (case N => k_asm); (case b => exact Top.nolimit (by k_asm)); (case a => rfl); (case l => rfl); (case e => exact List.cons_ne_nil _ _); (case n => exact Nat.le_of_ble_eq_true rfl)); intro d' h' o' F' N' l1 lo' hd'; (try k_lt l1)))
-- a written condition, ahead of all
local macro_rules | `(tactic| walk_at "ite") => `(tactic| (k_closed; k_dflt (first | refine ite_pos (by decide) ?_ | refine ite_neg (by decide) ?_)))
local macro_rules | `(tactic| walk_at "ite") => `(tactic| (k_here; first | with_reducible refine ite_tt ?_ | with_reducible refine ite_ff ?_))
-- a name of the frame's or of the top's, ahead of the kit's other lines
local macro_rules | `(tactic| walk_at "eval Name") => `(tactic| (k_here; (fail_if_success (with_reducible show wpAny _ _ (eval _ (compEnvC _ _ _ _)) _ _ _)); k_dflt (first | (refine' nameX_L ?F ?v ?_ ?a ?b; (case F => k_asm); (case a => rfl); (case b => rfl); (case v => rfl); k_whole) | (refine' nameX_K ?F ?X ?T ?e ?_ ?a ?b; (case F => k_asm); (case X => k_asm); (case T => k_asm); (case a => rfl); (case b => rfl); (case e => k_is); k_whole))))
section
variable {w : World} {A : Around} {E : Value → Shared → Prop} {s : Shared} {Q : Value → Shared → Prop}
  {p : Program} {loose : List Str} {mean : ExcName → Option Value} {mg mb : Str → Option Value} {x : M4} {r : Addr}

theorem filled {P : Params} : PySem.Challenge.rw_ah5011_01 = PySem.Challenge.rw_ah5011_01 ∧ hd.heap_39 P = hd.heap_39 P := by
  w_on
  k_fill
  exact ⟨rfl, rfl⟩

def negM (x : M4) : M4 := if x.2.1 = 0 then (if x.2.2.1 = 0 then x else if x = inf then ninf else if x = ninf then inf else x) else (1 - x.1, x.2.1, x.2.2.1, x.2.2.2)

theorem neg_ok (X : (hd.heap_39 w.params).In s.heap) (T : Top p loose mean mg mb s.heap) (C : Nice 1 A) (I : IsM s.heap r x)
   (h : ∀ r' h' tk', s.heap.StaysIn h' → IsM h' r' (negM x) → Q (.ref r') ⟨h', s.gens, s.drawn, tk', s.os⟩) : wpAny (model P0 w) A (call (.ref 111) [.ref r]) Q E s := by
  have B : Binds [(Str.ofString "s", .ref r), (Str.ofString "prec", .int 0 358), (Str.ofString "rnd", .str (Str.ofString "d") 252)] := trivial
  kwd_inv
  kwd_less
  all_goals refine h _ _ _ (Fr.keep (by assumption)) (IsM.cast (by ktr_rel) ?_)
  all_goals law_clear
  all_goals simp_all [negM]

def signM (x : M4) : Int := if x.2.1 = 0 then (if x = inf then 1 else if x = ninf then -1 else 0) else if x.1 = 0 then 1 else -1

theorem sign_ok (X : (hd.heap_39 w.params).In s.heap) (T : Top p loose mean mg mb s.heap) (C : Nice 1 A) (I : IsM s.heap r x) (hs : x.1 = 0 ∨ x.1 = 1)
   (h : ∀ h' tk' t, s.heap.StaysIn h' → Q (.int (signM x) t) ⟨h', s.gens, s.drawn, tk', s.os⟩) : wpAny (model P0 w) A (call (.ref 126) [.ref r]) Q E s := by
  have B : Binds [(Str.ofString "s", .ref r)] := trivial
  kwd_inv
  kwd_less
  all_goals refine retI h (Fr.keep (by assumption)) ?_
  all_goals law_clear
  all_goals (rcases hs with e | e <;> simp_all [signM])

theorem sign_zero (ox : Ok x) (h : signM x = 0) : x = nan ∨ x = zero := by
  rcases ox with rfl | rfl | rfl | rfl | ⟨h1, h2, _⟩
  · cases h
  · cases h
  · exact .inl rfl
  · exact .inr rfl
  · unfold signM at h
    rw [if_neg (by omega)] at h
    split at h <;> omega
theorem sign_three (x : M4) : signM x = 1 ∨ signM x = -1 ∨ signM x = 0 := by
  unfold signM
  (repeat' split) <;> simp
theorem sign_ok3 (X : (hd.heap_39 w.params).In s.heap) (T : Top p loose mean mg mb s.heap) (C : Nice 1 A) (I : IsM s.heap r x) (hs : x.1 = 0 ∨ x.1 = 1)
   (h1 : signM x = 1 → ∀ h' tk' t, s.heap.StaysIn h' → Q (.int 1 t) ⟨h', s.gens, s.drawn, tk', s.os⟩)
   (h2 : signM x = -1 → ∀ h' tk' t, s.heap.StaysIn h' → Q (.int (-1) t) ⟨h', s.gens, s.drawn, tk', s.os⟩)
   (h0 : signM x = 0 → ∀ h' tk' t, s.heap.StaysIn h' → Q (.int 0 t) ⟨h', s.gens, s.drawn, tk', s.os⟩) : wpAny (model P0 w) A (call (.ref 126) [.ref r]) Q E s :=
  sign_ok X T C I hs fun h' tk' t k => by
    rcases sign_three x with e | e | e
    · rw [e]; exact h1 e h' tk' t k
    · rw [e]; exact h2 e h' tk' t k
    · rw [e]; exact h0 e h' tk' t k

theorem others_ok (X : (hd.heap_39 w.params).In s.heap) (T : Top p loose mean mg mb s.heap) (C : Nice 1 A)
   (h : ∀ l r1 r2 r3 h' tk' a1 a2 a3 a4 b1 b2 b3 b4 c1 c2 c3 c4, s.heap.StaysIn h' → Made s.heap h' [(l, listOf #[.ref r1, .ref r2, .ref r3] 0), (r3, ob4 nan a1 a2 a3 a4), (r2, ob4 ninf b1 b2 b3 b4), (r1, ob4 inf c1 c2 c3 c4)] → Q (.ref l) ⟨h', s.gens, s.drawn, tk', s.os⟩) :
   wpAny (model P0 w) A (call (.ref 220) []) Q E s := by
  have B : Binds [] := trivial
  kwd_inv
  kwd_less
  exact h _ _ _ _ _ _ _ _ _ _ _ _ _ _ _ _ _ _ (Fr.keep (by assumption)) (Made.of (by assumption) (fun _ e => e))

def lsignM (x : M4) : Int := if x = zero then 0 else if x.1 = 1 then -1 else 1
theorem lsign_lo (x : M4) : -1 ≤ lsignM x := by unfold lsignM; split <;> (try split) <;> omega
theorem lsign_hi (x : M4) : lsignM x ≤ 1 := by unfold lsignM; split <;> (try split) <;> omega
theorem lsign_ok (X : (hd.heap_39 w.params).In s.heap) (T : Top p loose mean mg mb s.heap) (C : Nice 1 A) (I : IsM s.heap r x)
   (h : ∀ h' tk' t, s.heap.StaysIn h' → -1 ≤ lsignM x → lsignM x ≤ 1 → Q (.int (lsignM x) t) ⟨h', s.gens, s.drawn, tk', s.os⟩) : wpAny (model P0 w) A (call (.ref 227) [.ref r]) Q E s := by
  have B : Binds [(Str.ofString "s", .ref r)] := trivial
  kwd_inv
  kwd_less
  all_goals refine retI (fun h' tk' t k => h h' tk' t k (lsign_lo x) (lsign_hi x)) (Fr.keep (by assumption)) ?_
  all_goals law_clear
  all_goals simp_all [lsignM]
end

end
section
local macro_rules | `(tactic| k_mem) => `(tactic| with_reducible assumption)
-- a tuple's fact
local macro_rules | `(tactic| ktr_rel) => `(tactic| first
  | with_reducible assumption
  | exact IsM.of_tup (Fr.tup (by k_asm) (by with_reducible assumption))
  | exact IsM.stay (Fr.keep (by k_asm)) (by with_reducible assumption)
  | exact IsM.of_news (by k_asm) (by k_mem)
  | exact IsM.of_newsO (by k_asm) (by k_mem) (by with_reducible assumption)
  | exact inf_at (by k_in)
  | exact ninf_at (by k_in)
  | exact nan_at (by k_in)
  | exact zero_at (by k_in)
  | exact one_at (by k_in)
  | exact IsM.stay (by with_reducible assumption) (by with_reducible assumption))
-- room
local macro_rules | `(tactic| ktr_room) => `(tactic| first | exact Nice.room (by assumption) | exact Nice.room1 (by assumption))
-- an absurd way
local macro_rules | `(tactic| ktr_unf) => `(tactic| first | exact absurd rfl (by assumption) | skip)
-- entering a def
local macro_rules | `(tactic| kwd_inv) => `(tactic| (
  refine' enter ?B ?X ?T ?C ?ho ?hcd ?hbind ?hloc ?_ ?c2 ?c3 ?c4 ?c5
  (case B => assumption)
  (case X => assumption)
  (case T => exact topRead_of (by assumption))
  (case C => assumption)
  (case ho => k_is)
  (case hcd => k_is)
  (case hbind => first | exact BindsAt.at (by assumption) (by k_is) | exact BindsTo.of_eq rfl | exact binds_K (by assumption) rfl (by k_is) rfl rfl rfl)
  (case hloc => exact locs rfl)
  (case c2 => exact rfl)
  (case c3 => exact rfl)
  (case c4 => exact rfl)
  (case c5 => decide)
  intro L' h' tk' F' N' C'
  (try dsimp only [List.reverse_cons, List.reverse_nil, List.nil_append, List.cons_append])
  (try dsimp only [List.reverse_cons, List.reverse_nil, List.nil_append, List.cons_append] at F')
  (try k_fold)))
-- a store
local macro_rules | `(tactic| walk_at "storeName") => `(tactic| (k_here; k_dflt (refine' storeT ?F ?N ?_ ?a ?b; (case F => k_asm); (case N => k_asm); (case a => rfl); (case b => rfl); k_whole; intro h' tk' F' N'); (try dsimp only); (try k_sweep)))
-- a new tuple of four ints
local macro_rules | `(tactic| walk_at "newTuple") => `(tactic| (k_here; k_dflt (refine' newTup4 ?F ?N ?_; (case F => k_asm); (case N => k_asm); intro D' h' ta' tb' tc' td' F' N' k'); (try dsimp only); (try dsimp only at k'); (try k_sweep)))
-- comparisons
local macro_rules | `(tactic| walk_at "compareOp Eq ref ref") => `(tactic| (k_here; k_dflt (refine' eqM ?I ?J ?u ?_ ?_; (case I => ktr_rel); (case J => ktr_rel); (case u => ktr_room)); (all_goals (intro e'; try tb_start))))
local macro_rules | `(tactic| walk_at "compareOp NotEq ref ref") => `(tactic| (k_here; k_dflt (refine' neM ?I ?J ?u ?_ ?_; (case I => ktr_rel); (case J => ktr_rel); (case u => ktr_room)); (all_goals (intro e'; try tb_start))))
local macro_rules | `(tactic| tb_start) => `(tactic| first | exact absurd rfl (by assumption) | (exfalso; omega) | (exfalso; law_clear; simp_all; done))
-- unpacking
local macro_rules | `(tactic| walk_at "assign Tuple") => `(tactic| (k_here; (with_reducible show wpAny _ _ (assign (Expr.Tuple _ _ _) _ (Value.ref _)) _ _ _); k_dflt (refine' unpackM ?F ?N ?I ?C ?n ?s ?_; (case F => k_asm); (case N => k_asm); (case I => ktr_rel); (case C => assumption); (case n => exact rfl); (case s => exact rfl); intro h' ta' tb' tc' td' F' N'); (try dsimp only); (try k_sweep)))
-- the walk
local macro_rules | `(tactic| kwd_less) => `(tactic| (w_top on; (repeat' (first | (k_unmd; k_unfold; (try dsimp only)) | walk1 | (dsimp only; first | (k_unmd; k_unfold; (try dsimp only)) | walk1) | fail "no step")); (all_goals (try dsimp only))))
local macro_rules | `(tactic| walk_at "assign Tuple") => `(tactic| (k_here; (with_reducible show wpAny _ _ (assign (Expr.Tuple [_, _] _ _) _ (Value.ref _)) _ _ _); k_dflt (refine' unpackN_ ?F ?N ?I ?C ?n ?s ?_; (case F => k_asm); (case N => k_asm); (case I => exact News.isTup (by k_asm) (by k_mem)); (case C => exact Nice.hh (by assumption)); (case n => exact rfl); (case s => exact rfl); intro h' F' N'); (try dsimp only); (try k_sweep)))
local macro_rules | `(tactic| walk_at "unpackItems ref") => `(tactic| (k_here; k_dflt (refine' unpackItemsN_ ?F ?N ?I ?C ?n ?_; (case F => k_asm); (case N => k_asm); (case I => exact News.isTup (by k_asm) (by k_mem)); (case C => exact Nice.hh (by assumption)); (case n => exact rfl); intro h' F' N'); (try dsimp only); (try k_sweep)))
-- an item of a tuple of four
local macro_rules | `(tactic| walk_at "subscriptTail") => `(tactic| (k_here; (with_reducible show wpAny _ _ (subscriptTail _ _ (Value.ref _) (Value.int 0 _)) _ _ _); k_dflt (refine' item4_0 ?I ?_ ?hs; (case I => ktr_rel); (case hs => with_unfolding_all rfl)); k_whole; intro t'; (try dsimp only)))
local macro_rules | `(tactic| walk_at "subscriptTail") => `(tactic| (k_here; (with_reducible show wpAny _ _ (subscriptTail _ _ (Value.ref _) (Value.int 1 _)) _ _ _); k_dflt (refine' item4_1 ?I ?_ ?hs; (case I => ktr_rel); (case hs => with_unfolding_all rfl)); k_whole; intro t'; (try dsimp only)))
local macro_rules | `(tactic| walk_at "subscriptTail") => `(tactic| (k_here; (with_reducible show wpAny _ _ (subscriptTail _ _ (Value.ref _) (Value.int 2 _)) _ _ _); k_dflt (refine' item4_2 ?I ?_ ?hs; (case I => ktr_rel); (case hs => with_unfolding_all rfl)); k_whole; intro t'; (try dsimp only)))
local macro_rules | `(tactic| walk_at "subscriptTail") => `(tactic| (k_here; (with_reducible show wpAny _ _ (subscriptTail _ _ (Value.ref _) (Value.int 3 _)) _ _ _); k_dflt (refine' item4_3 ?I ?_ ?hs; (case I => ktr_rel); (case hs => with_unfolding_all rfl)); k_whole; intro t'; (try dsimp only)))
-- membership
local macro_rules | `(tactic| ktd_rel) => `(tactic| first | exact AreM.nil | (refine' AreM.cons ?a ?b; (case a => ktr_rel); (case b => ktd_rel)))
local macro_rules | `(tactic| walk_at "compareOp In ref ref") => `(tactic| (k_here; k_dflt (first
  | (refine' inListM ?l ?G ?J ?u ?_ ?_; (case l => exact News.isList (by k_asm) (by k_mem)); (case G => ktd_rel); (case J => ktr_rel); (case u => ktr_room))
  | (refine' inTupM ?l ?G ?J ?u ?_ ?_; (case l => exact News.isTup (by k_asm) (by k_mem)); (case G => ktd_rel); (case J => ktr_rel); (case u => ktr_room))); (all_goals (intro e'; (try simp only [List.mem_cons, List.not_mem_nil, or_false] at e'); try tb_start))))
-- a branch that the facts decide
local macro_rules | `(tactic| kwd_rel) => `(tactic| first | with_reducible assumption | (simp only [decide_eq_true_eq, decide_eq_false_iff_not, Bool.not_eq_true, Bool.not_eq_false, bne_iff_ne, beq_iff_eq, bne_eq_false_iff_eq, beq_eq_false_iff_ne, Bool.and_eq_true, Bool.or_eq_true, Bool.not_eq_true', Bool.not_eq_false', ne_eq]; omega) | omega)
local macro_rules | `(tactic| walk_at "ite") => `(tactic| (k_here; k_openite; k_dflt (first | (refine' ite_pos ?c ?_; (case c => kwd_rel)) | (refine' ite_neg ?c ?_; (case c => kwd_rel))); walk_say "CUT"))
-- a dict display by ints
local macro_rules | `(tactic| walk_at "eval Dict") => `(tactic| (k_here; k_dflt (refine' kdn_eval (knd := PySem.intKind _ _) ?F ?N ?b ?a ?l ?e ?n ?_; (case F => k_asm); (case N => k_asm); (case b => exact Top.nolimit (by k_asm)); (case a => rfl); (case l => rfl); (case e => exact List.cons_ne_nil _ _); (case n => exact Nat.le_of_ble_eq_true rfl)); intro d' h' o' F' N' l1 lo' hd'; (try k_lt l1)))
-- a written condition, ahead of all
local macro_rules | `(tactic| walk_at "ite") => `(tactic| (k_closed; k_dflt (first | refine ite_pos (by decide) ?_ | refine ite_neg (by decide) ?_)))
local macro_rules | `(tactic| walk_at "ite") => `(tactic| (k_here; first | with_reducible refine ite_tt ?_ | with_reducible refine ite_ff ?_))
-- a name of the frame's or of the top's, ahead of the kit's other lines
local macro_rules | `(tactic| walk_at "eval Name") => `(tactic| (k_here; (fail_if_success (with_reducible show wpAny _ _ (eval _ (compEnvC _ _ _ _)) _ _ _)); k_dflt (first | (refine' nameX_L ?F ?v ?_ ?a ?b; (case F => k_asm); (case a => rfl); (case b => rfl); (case v => rfl); k_whole) | (refine' nameX_K ?F ?X ?T ?e ?_ ?a ?b; (case F => k_asm); (case X => k_asm); (case T => k_asm); (case a => rfl); (case b => rfl); (case e => k_is); k_whole))))

local macro_rules | `(tactic| walk_at "call ref") => `(tactic| (k_here; (with_reducible show wpAny _ _ (call (Value.ref 111) _) _ _ _); k_dflt (refine' neg_ok ?X ?T ?C ?I ?_; (case X => k_in); (case T => exact Top.keeps (by assumption) (Fr.keep (by assumption))); (case C => exact Nice.less (by assumption) (by decide)); (case I => ktr_rel); intro r' h' tk' k' I'; (have F' := Fr.stay (by assumption) k'); (have N' := News.stay (by assumption) k'); (have P' := IsM.place F' N' I'); clear I'; (rcases P' with I0' | ⟨o', N2', hO'⟩)); (all_goals ((try dsimp only); (try dsimp only at k'); (try k_sweep)))))
local macro_rules | `(tactic| walk_at "call ref") => `(tactic| (k_here; (with_reducible show wpAny _ _ (call (Value.ref 126) _) _ _ _); k_dflt (refine' sign_ok3 ?X ?T ?C ?I ?S ?_ ?_ ?_; (case X => k_in); (case T => exact Top.keeps (by assumption) (Fr.keep (by assumption))); (case C => exact Nice.less (by assumption) (by decide)); (case I => ktr_rel); (case S => exact (Ok.facts (by assumption)).1)); (all_goals (intro e'; first | (exfalso; (rcases sign_zero (by assumption) e' with z | z) <;> (subst z; law_clear; simp_all; done)) | (intro h' tk' t' k'; (have F' := Fr.stay (by assumption) k'); (have N' := News.stay (by assumption) k'); (try dsimp only); (try dsimp only at k'); (try k_sweep))))))
local macro_rules | `(tactic| walk_at "call ref") => `(tactic| (k_here; (with_reducible show wpAny _ _ (call (Value.ref 227) _) _ _ _); k_dflt (refine' lsign_ok ?X ?T ?C ?I ?_; (case X => k_in); (case T => exact Top.keeps (by assumption) (Fr.keep (by assumption))); (case C => exact Nice.less (by assumption) (by decide)); (case I => ktr_rel); intro h' tk' t' k' lo' hi'; (have F' := Fr.stay (by assumption) k'); (have N' := News.stay (by assumption) k')); (try dsimp only); (try dsimp only at k'); (try k_sweep)))
local macro_rules | `(tactic| walk_at "call ref") => `(tactic| (k_here; (with_reducible show wpAny _ _ (call (Value.ref 220) _) _ _ _); k_dflt (refine' others_ok ?X ?T ?C ?_; (case X => k_in); (case T => exact Top.keeps (by assumption) (Fr.keep (by assumption))); (case C => exact Nice.less (by assumption) (by decide)); intro l' r1' r2' r3' h' tk' a1' a2' a3' a4' b1' b2' b3' b4' c1' c2' c3' c4' k' M'; (have F' := Fr.stay (by assumption) k'); (have N' := News.made (by assumption) (by assumption) k' M'); clear M'); (try dsimp only); (try dsimp only [List.cons_append, List.nil_append] at N'); (try dsimp only at k'); (try k_sweep)))

section
variable {w : World} {A : Around} {E : Value → Shared → Prop} {s : Shared} {Q : Value → Shared → Prop}
  {p : Program} {loose : List Str} {mean : ExcName → Option Value} {mg mb : Str → Option Value} {x : M4} {r : Addr}


theorem great_ok (X : (hd.heap_39 w.params).In s.heap) (T : Top p loose mean mg mb s.heap) (C : Nice 2 A) (I : IsM s.heap r x)
   (h1 : (x = inf ∨ x = ninf) → ∀ h' tk', s.heap.StaysIn h' → Q (.bool true) ⟨h', s.gens, s.drawn, tk', s.os⟩)
   (h2 : ¬ (x = inf ∨ x = ninf) → ∀ h' tk', s.heap.StaysIn h' → Q (.bool false) ⟨h', s.gens, s.drawn, tk', s.os⟩) : wpAny (model P0 w) A (call (.ref 234) [.ref r]) Q E s := by
  have B : Binds [(Str.ofString "s", .ref r)] := trivial
  kwd_inv
  kwd_less
  · exact h1 (by assumption) _ _ (Fr.keep (by assumption))
  · exact h2 (by assumption) _ _ (Fr.keep (by assumption))

theorem infinite_ok {g : Int} {tg : Tok} (X : (hd.heap_39 w.params).In s.heap) (T : Top p loose mean mg mb s.heap) (C : Nice 2 A)
   (h : ∀ r h' tk' a b c d, s.heap.StaysIn h' → Made s.heap h' [(r, ob4 (if 0 < g then inf else ninf) a b c d)] → Q (.ref r) ⟨h', s.gens, s.drawn, tk', s.os⟩) :
   wpAny (model P0 w) A (call (.ref 241) [.int g tg]) Q E s := by
  have B : Binds [(Str.ofString "sign", .int g tg)] := trivial
  kwd_inv
  kwd_less
  · exact h _ _ _ _ _ _ _ (Fr.keep (by assumption)) (Made.one (by assumption) (by k_mem) (if_pos (by assumption)).symm)
  · exact h _ _ _ _ _ _ _ (Fr.keep (by assumption)) (Made.one (by assumption) (by k_mem) (if_neg (by assumption)).symm)
end

end
section
local macro_rules | `(tactic| k_mem) => `(tactic| with_reducible assumption)
-- a tuple's fact
local macro_rules | `(tactic| ktr_rel) => `(tactic| first
  | with_reducible assumption
  | exact IsM.of_tup (Fr.tup (by k_asm) (by with_reducible assumption))
  | exact IsM.stay (Fr.keep (by k_asm)) (by with_reducible assumption)
  | exact IsM.of_news (by k_asm) (by k_mem)
  | exact IsM.of_newsO (by k_asm) (by k_mem) (by with_reducible assumption)
  | exact inf_at (by k_in)
  | exact ninf_at (by k_in)
  | exact nan_at (by k_in)
  | exact zero_at (by k_in)
  | exact one_at (by k_in)
  | exact IsM.stay (by with_reducible assumption) (by with_reducible assumption))
-- room
local macro_rules | `(tactic| ktr_room) => `(tactic| first | exact Nice.room (by assumption) | exact Nice.room1 (by assumption))
-- an absurd way
local macro_rules | `(tactic| ktr_unf) => `(tactic| first | exact absurd rfl (by assumption) | skip)
-- entering a def
local macro_rules | `(tactic| kwd_inv) => `(tactic| (
  refine' enter ?B ?X ?T ?C ?ho ?hcd ?hbind ?hloc ?_ ?c2 ?c3 ?c4 ?c5
  (case B => assumption)
  (case X => assumption)
  (case T => exact topRead_of (by assumption))
  (case C => assumption)
  (case ho => k_is)
  (case hcd => k_is)
  (case hbind => first | exact BindsAt.at (by assumption) (by k_is) | exact BindsTo.of_eq rfl | exact binds_K (by assumption) rfl (by k_is) rfl rfl rfl)
  (case hloc => exact locs rfl)
  (case c2 => exact rfl)
  (case c3 => exact rfl)
  (case c4 => exact rfl)
  (case c5 => decide)
  intro L' h' tk' F' N' C'
  (try dsimp only [List.reverse_cons, List.reverse_nil, List.nil_append, List.cons_append])
  (try dsimp only [List.reverse_cons, List.reverse_nil, List.nil_append, List.cons_append] at F')
  (try k_fold)))
-- a store
local macro_rules | `(tactic| walk_at "storeName") => `(tactic| (k_here; k_dflt (refine' storeT ?F ?N ?_ ?a ?b; (case F => k_asm); (case N => k_asm); (case a => rfl); (case b => rfl); k_whole; intro h' tk' F' N'); (try dsimp only); (try k_sweep)))
-- a new tuple of four ints
local macro_rules | `(tactic| walk_at "newTuple") => `(tactic| (k_here; k_dflt (refine' newTup4 ?F ?N ?_; (case F => k_asm); (case N => k_asm); intro D' h' ta' tb' tc' td' F' N' k'); (try dsimp only); (try dsimp only at k'); (try k_sweep)))
-- comparisons
local macro_rules | `(tactic| walk_at "compareOp Eq ref ref") => `(tactic| (k_here; k_dflt (refine' eqM ?I ?J ?u ?_ ?_; (case I => ktr_rel); (case J => ktr_rel); (case u => ktr_room)); (all_goals (intro e'; try tb_start))))
local macro_rules | `(tactic| walk_at "compareOp NotEq ref ref") => `(tactic| (k_here; k_dflt (refine' neM ?I ?J ?u ?_ ?_; (case I => ktr_rel); (case J => ktr_rel); (case u => ktr_room)); (all_goals (intro e'; try tb_start))))
local macro_rules | `(tactic| tb_start) => `(tactic| first | exact absurd rfl (by assumption) | (exfalso; omega) | (exfalso; law_clear; simp_all; done))
-- unpacking
local macro_rules | `(tactic| walk_at "assign Tuple") => `(tactic| (k_here; (with_reducible show wpAny _ _ (assign (Expr.Tuple _ _ _) _ (Value.ref _)) _ _ _); k_dflt (refine' unpackM ?F ?N ?I ?C ?n ?s ?_; (case F => k_asm); (case N => k_asm); (case I => ktr_rel); (case C => assumption); (case n => exact rfl); (case s => exact rfl); intro h' ta' tb' tc' td' F' N'); (try dsimp only); (try k_sweep)))
-- the walk
local macro_rules | `(tactic| kwd_less) => `(tactic| (w_top on; (repeat' (first | (k_unmd; k_unfold; (try dsimp only)) | walk1 | (dsimp only; first | (k_unmd; k_unfold; (try dsimp only)) | walk1) | fail "no step")); (all_goals (try dsimp only))))
local macro_rules | `(tactic| walk_at "assign Tuple") => `(tactic| (k_here; (with_reducible show wpAny _ _ (assign (Expr.Tuple [_, _] _ _) _ (Value.ref _)) _ _ _); k_dflt (refine' unpackN_ ?F ?N ?I ?C ?n ?s ?_; (case F => k_asm); (case N => k_asm); (case I => exact News.isTup (by k_asm) (by k_mem)); (case C => exact Nice.hh (by assumption)); (case n => exact rfl); (case s => exact rfl); intro h' F' N'); (try dsimp only); (try k_sweep)))
local macro_rules | `(tactic| walk_at "unpackItems ref") => `(tactic| (k_here; k_dflt (refine' unpackItemsN_ ?F ?N ?I ?C ?n ?_; (case F => k_asm); (case N => k_asm); (case I => exact News.isTup (by k_asm) (by k_mem)); (case C => exact Nice.hh (by assumption)); (case n => exact rfl); intro h' F' N'); (try dsimp only); (try k_sweep)))
-- an item of a tuple of four
local macro_rules | `(tactic| walk_at "subscriptTail") => `(tactic| (k_here; (with_reducible show wpAny _ _ (subscriptTail _ _ (Value.ref _) (Value.int 0 _)) _ _ _); k_dflt (refine' item4_0 ?I ?_ ?hs; (case I => ktr_rel); (case hs => with_unfolding_all rfl)); k_whole; intro t'; (try dsimp only)))
local macro_rules | `(tactic| walk_at "subscriptTail") => `(tactic| (k_here; (with_reducible show wpAny _ _ (subscriptTail _ _ (Value.ref _) (Value.int 1 _)) _ _ _); k_dflt (refine' item4_1 ?I ?_ ?hs; (case I => ktr_rel); (case hs => with_unfolding_all rfl)); k_whole; intro t'; (try dsimp only)))
local macro_rules | `(tactic| walk_at "subscriptTail") => `(tactic| (k_here; (with_reducible show wpAny _ _ (subscriptTail _ _ (Value.ref _) (Value.int 2 _)) _ _ _); k_dflt (refine' item4_2 ?I ?_ ?hs; (case I => ktr_rel); (case hs => with_unfolding_all rfl)); k_whole; intro t'; (try dsimp only)))
local macro_rules | `(tactic| walk_at "subscriptTail") => `(tactic| (k_here; (with_reducible show wpAny _ _ (subscriptTail _ _ (Value.ref _) (Value.int 3 _)) _ _ _); k_dflt (refine' item4_3 ?I ?_ ?hs; (case I => ktr_rel); (case hs => with_unfolding_all rfl)); k_whole; intro t'; (try dsimp only)))
-- membership
local macro_rules | `(tactic| ktd_rel) => `(tactic| first | exact AreM.nil | (refine' AreM.cons ?a ?b; (case a => ktr_rel); (case b => ktd_rel)))
local macro_rules | `(tactic| walk_at "compareOp In ref ref") => `(tactic| (k_here; k_dflt (first
  | (refine' inListM ?l ?G ?J ?u ?_ ?_; (case l => exact News.isList (by k_asm) (by k_mem)); (case G => ktd_rel); (case J => ktr_rel); (case u => ktr_room))
  | (refine' inTupM ?l ?G ?J ?u ?_ ?_; (case l => exact News.isTup (by k_asm) (by k_mem)); (case G => ktd_rel); (case J => ktr_rel); (case u => ktr_room))); (all_goals (intro e'; (try simp only [List.mem_cons, List.not_mem_nil, or_false] at e'); try tb_start))))
-- a branch that the facts decide
local macro_rules | `(tactic| kwd_rel) => `(tactic| first | with_reducible assumption | (simp only [decide_eq_true_eq, decide_eq_false_iff_not, Bool.not_eq_true, Bool.not_eq_false, bne_iff_ne, beq_iff_eq, bne_eq_false_iff_eq, beq_eq_false_iff_ne, Bool.and_eq_true, Bool.or_eq_true, Bool.not_eq_true', Bool.not_eq_false', ne_eq]; omega) | omega)
local macro_rules | `(tactic| walk_at "ite") => `(tactic| (k_here; k_openite; k_dflt (first | (refine' ite_pos ?c ?_; (case c => kwd_rel)) | (refine' ite_neg ?c ?_; (case c => kwd_rel))); walk_say "CUT"))
-- a dict display by ints
local macro_rules | `(tactic| walk_at "eval Dict") => `(tactic| (k_here; k_dflt (refine' kdn_eval (knd := PySem.intKind _ _) ?F ?N ?b ?a ?l ?e ?n ?_; (case F => k_asm); (case N => k_asm); (case b => exact Top.nolimit (by k_asm)); (case a => rfl); (case l => rfl); (case e => exact List.cons_ne_nil _ _); (case n => exact Nat.le_of_ble_eq_true rfl)); intro d' h' o' F' N' l1 lo' hd'; (try k_lt l1)))
-- a written condition, ahead of all
local macro_rules | `(tactic| walk_at "ite") => `(tactic| (k_closed; k_dflt (first | refine ite_pos (by decide) ?_ | refine ite_neg (by decide) ?_)))
local macro_rules | `(tactic| walk_at "ite") => `(tactic| (k_here; first | with_reducible refine ite_tt ?_ | with_reducible refine ite_ff ?_))
-- a name of the frame's or of the top's, ahead of the kit's other lines
local macro_rules | `(tactic| walk_at "eval Name") => `(tactic| (k_here; (fail_if_success (with_reducible show wpAny _ _ (eval _ (compEnvC _ _ _ _)) _ _ _)); k_dflt (first | (refine' nameX_L ?F ?v ?_ ?a ?b; (case F => k_asm); (case a => rfl); (case b => rfl); (case v => rfl); k_whole) | (refine' nameX_K ?F ?X ?T ?e ?_ ?a ?b; (case F => k_asm); (case X => k_asm); (case T => k_asm); (case a => rfl); (case b => rfl); (case e => k_is); k_whole))))

local macro_rules | `(tactic| walk_at "call ref") => `(tactic| (k_here; (with_reducible show wpAny _ _ (call (Value.ref 111) _) _ _ _); k_dflt (refine' neg_ok ?X ?T ?C ?I ?_; (case X => k_in); (case T => exact Top.keeps (by assumption) (Fr.keep (by assumption))); (case C => exact Nice.less (by assumption) (by decide)); (case I => ktr_rel); intro r' h' tk' k' I'; (have F' := Fr.stay (by assumption) k'); (have N' := News.stay (by assumption) k'); (have P' := IsM.place F' N' I'); clear I'; (rcases P' with I0' | ⟨o', N2', hO'⟩)); (all_goals ((try dsimp only); (try dsimp only at k'); (try k_sweep)))))
local macro_rules | `(tactic| walk_at "call ref") => `(tactic| (k_here; (with_reducible show wpAny _ _ (call (Value.ref 126) _) _ _ _); k_dflt (refine' sign_ok3 ?X ?T ?C ?I ?S ?_ ?_ ?_; (case X => k_in); (case T => exact Top.keeps (by assumption) (Fr.keep (by assumption))); (case C => exact Nice.less (by assumption) (by decide)); (case I => ktr_rel); (case S => exact (Ok.facts (by assumption)).1)); (all_goals (intro e'; first | (exfalso; (rcases sign_zero (by assumption) e' with z | z) <;> (subst z; law_clear; simp_all; done)) | (intro h' tk' t' k'; (have F' := Fr.stay (by assumption) k'); (have N' := News.stay (by assumption) k'); (try dsimp only); (try dsimp only at k'); (try k_sweep))))))
local macro_rules | `(tactic| walk_at "call ref") => `(tactic| (k_here; (with_reducible show wpAny _ _ (call (Value.ref 227) _) _ _ _); k_dflt (refine' lsign_ok ?X ?T ?C ?I ?_; (case X => k_in); (case T => exact Top.keeps (by assumption) (Fr.keep (by assumption))); (case C => exact Nice.less (by assumption) (by decide)); (case I => ktr_rel); intro h' tk' t' k' lo' hi'; (have F' := Fr.stay (by assumption) k'); (have N' := News.stay (by assumption) k')); (try dsimp only); (try dsimp only at k'); (try k_sweep)))
local macro_rules | `(tactic| walk_at "call ref") => `(tactic| (k_here; (with_reducible show wpAny _ _ (call (Value.ref 220) _) _ _ _); k_dflt (refine' others_ok ?X ?T ?C ?_; (case X => k_in); (case T => exact Top.keeps (by assumption) (Fr.keep (by assumption))); (case C => exact Nice.less (by assumption) (by decide)); intro l' r1' r2' r3' h' tk' a1' a2' a3' a4' b1' b2' b3' b4' c1' c2' c3' c4' k' M'; (have F' := Fr.stay (by assumption) k'); (have N' := News.made (by assumption) (by assumption) k' M'); clear M'); (try dsimp only); (try dsimp only [List.cons_append, List.nil_append] at N'); (try dsimp only at k'); (try k_sweep)))

local macro_rules | `(tactic| walk_at "call ref") => `(tactic| (k_here; (with_reducible show wpAny _ _ (call (Value.ref 241) _) _ _ _); k_dflt (refine' infinite_ok ?X ?T ?C  ?_; (case X => k_in); (case T => exact Top.keeps (by assumption) (Fr.keep (by assumption))); (case C => exact Nice.less (by assumption) (by decide));  intro r' h' tk' a' b' c' d' k' M'; (have F' := Fr.stay (by assumption) k'); (have N' := News.made (by assumption) (by assumption) k' M'); clear M'); (try dsimp only); (try dsimp only [List.cons_append, List.nil_append] at N'); (try dsimp only at k'); (try k_sweep)))
local macro_rules | `(tactic| walk_at "call ref") => `(tactic| (k_here; (with_reducible show wpAny _ _ (call (Value.ref 234) _) _ _ _); k_dflt (refine' great_ok ?X ?T ?C ?I ?_ ?_; (case X => k_in); (case T => exact Top.keeps (by assumption) (Fr.keep (by assumption))); (case C => exact Nice.less (by assumption) (by decide)); (case I => ktr_rel)); (all_goals (intro e'; first | (tb_start; done) | (intro h' tk' k'; (have F' := Fr.stay (by assumption) k'); (have N' := News.stay (by assumption) k'); (try dsimp only); (try dsimp only at k'); (try k_sweep))))))

section
variable {w : World} {A : Around} {E : Value → Shared → Prop} {s : Shared} {Q : Value → Shared → Prop}
  {p : Program} {loose : List Str} {mean : ExcName → Option Value} {mg mb : Str → Option Value} {x y : M4} {r q : Addr}


abbrev grM (x : M4) : Prop := x = inf ∨ x = ninf
def sumM (x y : M4) : M4 := if x = nan ∨ y = nan ∨ (grM x ∧ grM y ∧ x ≠ y) then nan else if grM x then x else y

theorem sum_ok (X : (hd.heap_39 w.params).In s.heap) (T : Top p loose mean mg mb s.heap) (C : Nice 3 A) (I : IsM s.heap r x) (J : IsM s.heap q y)
   (h : ∀ r' h' tk', s.heap.StaysIn h' → IsM h' r' (sumM x y) → Q (.ref r') ⟨h', s.gens, s.drawn, tk', s.os⟩) : wpAny (model P0 w) A (call (.ref 248) [.ref r, .ref q]) Q E s := by
  have B : Binds [(Str.ofString "s", .ref r), (Str.ofString "t", .ref q)] := trivial
  kwd_inv
  kwd_less
  all_goals refine h _ _ _ (Fr.keep (by assumption)) (IsM.cast (by ktr_rel) ?_)
  all_goals law_clear
  all_goals simp_all [sumM, grM]

def prodM (x y : M4) : M4 := if x = nan ∨ y = nan ∨ lsignM x * lsignM y = 0 then nan else if 0 < lsignM x * lsignM y then inf else ninf
theorem prod_ok (X : (hd.heap_39 w.params).In s.heap) (T : Top p loose mean mg mb s.heap) (C : Nice 3 A) (I : IsM s.heap r x) (J : IsM s.heap q y)
   (h : ∀ r' h' tk', s.heap.StaysIn h' → IsM h' r' (prodM x y) → Q (.ref r') ⟨h', s.gens, s.drawn, tk', s.os⟩) : wpAny (model P0 w) A (call (.ref 255) [.ref r, .ref q]) Q E s := by
  have B : Binds [(Str.ofString "s", .ref r), (Str.ofString "t", .ref q)] := trivial
  kwd_inv
  kwd_less
  all_goals refine h _ _ _ (Fr.keep (by assumption)) (IsM.cast (by ktr_rel) ?_)
  all_goals law_clear
  all_goals simp_all [prodM]

def quotM (x y : M4) : M4 := if x = nan ∨ y = nan ∨ (grM x ∧ grM y) then nan else if grM y then zero else if 0 < lsignM x * lsignM y then inf else ninf
theorem quot_ok (X : (hd.heap_39 w.params).In s.heap) (T : Top p loose mean mg mb s.heap) (C : Nice 3 A) (I : IsM s.heap r x) (J : IsM s.heap q y)
   (h1 : y = zero → ∀ h' tk', s.heap.StaysIn h' → Q .none ⟨h', s.gens, s.drawn, tk', s.os⟩)
   (h2 : y ≠ zero → ∀ r' h' tk', s.heap.StaysIn h' → IsM h' r' (quotM x y) → Q (.ref r') ⟨h', s.gens, s.drawn, tk', s.os⟩) : wpAny (model P0 w) A (call (.ref 262) [.ref r, .ref q]) Q E s := by
  have B : Binds [(Str.ofString "s", .ref r), (Str.ofString "t", .ref q)] := trivial
  kwd_inv
  kwd_less
  · exact h1 (by assumption) _ _ (Fr.keep (by assumption))
  all_goals refine h2 (by assumption) _ _ _ (Fr.keep (by assumption)) (IsM.cast (by ktr_rel) ?_)
  all_goals law_clear
  all_goals simp_all [quotM, grM]

def powM (x : M4) (n : Int) : M4 := if n = 0 then one else if x = nan then x else if n < 0 then zero else if n.fmod 2 = 0 then inf else if 0 < lsignM x then inf else ninf
theorem pow_ok {n : Int} {tn : Tok} (X : (hd.heap_39 w.params).In s.heap) (T : Top p loose mean mg mb s.heap) (C : Nice 3 A) (I : IsM s.heap r x) 
   (h : ∀ r' h' tk', s.heap.StaysIn h' → IsM h' r' (powM x n) → Q (.ref r') ⟨h', s.gens, s.drawn, tk', s.os⟩) : wpAny (model P0 w) A (call (.ref 269) [.ref r, .int n tn]) Q E s := by
  have B : Binds [(Str.ofString "s", .ref r), (Str.ofString "n", .int n tn)] := trivial
  kwd_inv
  kwd_less
  all_goals refine h _ _ _ (Fr.keep (by assumption)) (IsM.cast (by ktr_rel) ?_)
  all_goals law_clear
  all_goals simp_all [powM]
  all_goals (intro; omega)
end

end
section
local macro_rules | `(tactic| k_mem) => `(tactic| with_reducible assumption)
-- a tuple's fact
local macro_rules | `(tactic| ktr_rel) => `(tactic| first
  | with_reducible assumption
  | exact IsM.of_tup (Fr.tup (by k_asm) (by with_reducible assumption))
  | exact IsM.stay (Fr.keep (by k_asm)) (by with_reducible assumption)
  | exact IsM.of_news (by k_asm) (by k_mem)
  | exact IsM.of_newsO (by k_asm) (by k_mem) (by with_reducible assumption)
  | exact inf_at (by k_in)
  | exact ninf_at (by k_in)
  | exact nan_at (by k_in)
  | exact zero_at (by k_in)
  | exact one_at (by k_in)
  | exact IsM.stay (by with_reducible assumption) (by with_reducible assumption))
-- room
local macro_rules | `(tactic| ktr_room) => `(tactic| first | exact Nice.room (by assumption) | exact Nice.room1 (by assumption))
-- an absurd way
local macro_rules | `(tactic| ktr_unf) => `(tactic| first | exact absurd rfl (by assumption) | skip)
-- entering a def
local macro_rules | `(tactic| kwd_inv) => `(tactic| (
  refine' enter ?B ?X ?T ?C ?ho ?hcd ?hbind ?hloc ?_ ?c2 ?c3 ?c4 ?c5
  (case B => assumption)
  (case X => assumption)
  (case T => exact topRead_of (by assumption))
  (case C => assumption)
  (case ho => k_is)
  (case hcd => k_is)
  (case hbind => first | exact BindsAt.at (by assumption) (by k_is) | exact BindsTo.of_eq rfl | exact binds_K (by assumption) rfl (by k_is) rfl rfl rfl)
  (case hloc => exact locs rfl)
  (case c2 => exact rfl)
  (case c3 => exact rfl)
  (case c4 => exact rfl)
  (case c5 => decide)
  intro L' h' tk' F' N' C'
  (try dsimp only [List.reverse_cons, List.reverse_nil, List.nil_append, List.cons_append])
  (try dsimp only [List.reverse_cons, List.reverse_nil, List.nil_append, List.cons_append] at F')
  (try k_fold)))
-- a store
local macro_rules | `(tactic| walk_at "storeName") => `(tactic| (k_here; k_dflt (refine' storeT ?F ?N ?_ ?a ?b; (case F => k_asm); (case N => k_asm); (case a => rfl); (case b => rfl); k_whole; intro h' tk' F' N'); (try dsimp only); (try k_sweep)))
-- a new tuple of four ints
local macro_rules | `(tactic| walk_at "newTuple") => `(tactic| (k_here; k_dflt (refine' newTup4 ?F ?N ?_; (case F => k_asm); (case N => k_asm); intro D' h' ta' tb' tc' td' F' N' k'); (try dsimp only); (try dsimp only at k'); (try k_sweep)))
-- comparisons
local macro_rules | `(tactic| walk_at "compareOp Eq ref ref") => `(tactic| (k_here; k_dflt (refine' eqM ?I ?J ?u ?_ ?_; (case I => ktr_rel); (case J => ktr_rel); (case u => ktr_room)); (all_goals (intro e'; try tb_start))))
local macro_rules | `(tactic| walk_at "compareOp NotEq ref ref") => `(tactic| (k_here; k_dflt (refine' neM ?I ?J ?u ?_ ?_; (case I => ktr_rel); (case J => ktr_rel); (case u => ktr_room)); (all_goals (intro e'; try tb_start))))
local macro_rules | `(tactic| tb_start) => `(tactic| first | exact absurd rfl (by assumption) | (exfalso; omega) | (exfalso; law_clear; simp_all; done))
-- unpacking
local macro_rules | `(tactic| walk_at "assign Tuple") => `(tactic| (k_here; (with_reducible show wpAny _ _ (assign (Expr.Tuple _ _ _) _ (Value.ref _)) _ _ _); k_dflt (refine' unpackM ?F ?N ?I ?C ?n ?s ?_; (case F => k_asm); (case N => k_asm); (case I => ktr_rel); (case C => assumption); (case n => exact rfl); (case s => exact rfl); intro h' ta' tb' tc' td' F' N'); (try dsimp only); (try k_sweep)))
-- the walk
local macro_rules | `(tactic| kwd_less) => `(tactic| (w_top on; (repeat' (first | (k_unmd; k_unfold; (try dsimp only)) | walk1 | (dsimp only; first | (k_unmd; k_unfold; (try dsimp only)) | walk1) | fail "no step")); (all_goals (try dsimp only))))
local macro_rules | `(tactic| walk_at "assign Tuple") => `(tactic| (k_here; (with_reducible show wpAny _ _ (assign (Expr.Tuple [_, _] _ _) _ (Value.ref _)) _ _ _); k_dflt (refine' unpackN_ ?F ?N ?I ?C ?n ?s ?_; (case F => k_asm); (case N => k_asm); (case I => exact News.isTup (by k_asm) (by k_mem)); (case C => exact Nice.hh (by assumption)); (case n => exact rfl); (case s => exact rfl); intro h' F' N'); (try dsimp only); (try k_sweep)))
local macro_rules | `(tactic| walk_at "unpackItems ref") => `(tactic| (k_here; k_dflt (refine' unpackItemsN_ ?F ?N ?I ?C ?n ?_; (case F => k_asm); (case N => k_asm); (case I => exact News.isTup (by k_asm) (by k_mem)); (case C => exact Nice.hh (by assumption)); (case n => exact rfl); intro h' F' N'); (try dsimp only); (try k_sweep)))
-- an item of a tuple of four
local macro_rules | `(tactic| walk_at "subscriptTail") => `(tactic| (k_here; (with_reducible show wpAny _ _ (subscriptTail _ _ (Value.ref _) (Value.int 0 _)) _ _ _); k_dflt (refine' item4_0 ?I ?_ ?hs; (case I => ktr_rel); (case hs => with_unfolding_all rfl)); k_whole; intro t'; (try dsimp only)))
local macro_rules | `(tactic| walk_at "subscriptTail") => `(tactic| (k_here; (with_reducible show wpAny _ _ (subscriptTail _ _ (Value.ref _) (Value.int 1 _)) _ _ _); k_dflt (refine' item4_1 ?I ?_ ?hs; (case I => ktr_rel); (case hs => with_unfolding_all rfl)); k_whole; intro t'; (try dsimp only)))
local macro_rules | `(tactic| walk_at "subscriptTail") => `(tactic| (k_here; (with_reducible show wpAny _ _ (subscriptTail _ _ (Value.ref _) (Value.int 2 _)) _ _ _); k_dflt (refine' item4_2 ?I ?_ ?hs; (case I => ktr_rel); (case hs => with_unfolding_all rfl)); k_whole; intro t'; (try dsimp only)))
local macro_rules | `(tactic| walk_at "subscriptTail") => `(tactic| (k_here; (with_reducible show wpAny _ _ (subscriptTail _ _ (Value.ref _) (Value.int 3 _)) _ _ _); k_dflt (refine' item4_3 ?I ?_ ?hs; (case I => ktr_rel); (case hs => with_unfolding_all rfl)); k_whole; intro t'; (try dsimp only)))
-- membership
local macro_rules | `(tactic| ktd_rel) => `(tactic| first | exact AreM.nil | (refine' AreM.cons ?a ?b; (case a => ktr_rel); (case b => ktd_rel)))
local macro_rules | `(tactic| walk_at "compareOp In ref ref") => `(tactic| (k_here; k_dflt (first
  | (refine' inListM ?l ?G ?J ?u ?_ ?_; (case l => exact News.isList (by k_asm) (by k_mem)); (case G => ktd_rel); (case J => ktr_rel); (case u => ktr_room))
  | (refine' inTupM ?l ?G ?J ?u ?_ ?_; (case l => exact News.isTup (by k_asm) (by k_mem)); (case G => ktd_rel); (case J => ktr_rel); (case u => ktr_room))); (all_goals (intro e'; (try simp only [List.mem_cons, List.not_mem_nil, or_false] at e'); try tb_start))))
-- a branch that the facts decide
local macro_rules | `(tactic| kwd_rel) => `(tactic| first | with_reducible assumption | (simp only [decide_eq_true_eq, decide_eq_false_iff_not, Bool.not_eq_true, Bool.not_eq_false, bne_iff_ne, beq_iff_eq, bne_eq_false_iff_eq, beq_eq_false_iff_ne, Bool.and_eq_true, Bool.or_eq_true, Bool.not_eq_true', Bool.not_eq_false', ne_eq]; omega) | omega)
local macro_rules | `(tactic| walk_at "ite") => `(tactic| (k_here; k_openite; k_dflt (first | (refine' ite_pos ?c ?_; (case c => kwd_rel)) | (refine' ite_neg ?c ?_; (case c => kwd_rel))); walk_say "CUT"))
-- a dict display by ints
local macro_rules | `(tactic| walk_at "eval Dict") => `(tactic| (k_here; k_dflt (refine' kdn_eval (knd := PySem.intKind _ _) ?F ?N ?b ?a ?l ?e ?n ?_; (case F => k_asm); (case N => k_asm); (case b => exact Top.nolimit (by k_asm)); (case a => rfl); (case l => rfl); (case e => exact List.cons_ne_nil _ _); (case n => exact Nat.le_of_ble_eq_true rfl)); intro d' h' o' F' N' l1 lo' hd'; (try k_lt l1)))
-- a written condition, ahead of all
local macro_rules | `(tactic| walk_at "ite") => `(tactic| (k_closed; k_dflt (first | refine ite_pos (by decide) ?_ | refine ite_neg (by decide) ?_)))
local macro_rules | `(tactic| walk_at "ite") => `(tactic| (k_here; first | with_reducible refine ite_tt ?_ | with_reducible refine ite_ff ?_))
-- a name of the frame's or of the top's, ahead of the kit's other lines
local macro_rules | `(tactic| walk_at "eval Name") => `(tactic| (k_here; (fail_if_success (with_reducible show wpAny _ _ (eval _ (compEnvC _ _ _ _)) _ _ _)); k_dflt (first | (refine' nameX_L ?F ?v ?_ ?a ?b; (case F => k_asm); (case a => rfl); (case b => rfl); (case v => rfl); k_whole) | (refine' nameX_K ?F ?X ?T ?e ?_ ?a ?b; (case F => k_asm); (case X => k_asm); (case T => k_asm); (case a => rfl); (case b => rfl); (case e => k_is); k_whole))))

local macro_rules | `(tactic| walk_at "call ref") => `(tactic| (k_here; (with_reducible show wpAny _ _ (call (Value.ref 111) _) _ _ _); k_dflt (refine' neg_ok ?X ?T ?C ?I ?_; (case X => k_in); (case T => exact Top.keeps (by assumption) (Fr.keep (by assumption))); (case C => exact Nice.less (by assumption) (by decide)); (case I => ktr_rel); intro r' h' tk' k' I'; (have F' := Fr.stay (by assumption) k'); (have N' := News.stay (by assumption) k'); (have P' := IsM.place F' N' I'); clear I'; (rcases P' with I0' | ⟨o', N2', hO'⟩)); (all_goals ((try dsimp only); (try dsimp only at k'); (try k_sweep)))))
local macro_rules | `(tactic| walk_at "call ref") => `(tactic| (k_here; (with_reducible show wpAny _ _ (call (Value.ref 126) _) _ _ _); k_dflt (refine' sign_ok3 ?X ?T ?C ?I ?S ?_ ?_ ?_; (case X => k_in); (case T => exact Top.keeps (by assumption) (Fr.keep (by assumption))); (case C => exact Nice.less (by assumption) (by decide)); (case I => ktr_rel); (case S => exact (Ok.facts (by assumption)).1)); (all_goals (intro e'; first | (exfalso; (rcases sign_zero (by assumption) e' with z | z) <;> (subst z; law_clear; simp_all; done)) | (intro h' tk' t' k'; (have F' := Fr.stay (by assumption) k'); (have N' := News.stay (by assumption) k'); (try dsimp only); (try dsimp only at k'); (try k_sweep))))))
local macro_rules | `(tactic| walk_at "call ref") => `(tactic| (k_here; (with_reducible show wpAny _ _ (call (Value.ref 227) _) _ _ _); k_dflt (refine' lsign_ok ?X ?T ?C ?I ?_; (case X => k_in); (case T => exact Top.keeps (by assumption) (Fr.keep (by assumption))); (case C => exact Nice.less (by assumption) (by decide)); (case I => ktr_rel); intro h' tk' t' k' lo' hi'; (have F' := Fr.stay (by assumption) k'); (have N' := News.stay (by assumption) k')); (try dsimp only); (try dsimp only at k'); (try k_sweep)))
local macro_rules | `(tactic| walk_at "call ref") => `(tactic| (k_here; (with_reducible show wpAny _ _ (call (Value.ref 220) _) _ _ _); k_dflt (refine' others_ok ?X ?T ?C ?_; (case X => k_in); (case T => exact Top.keeps (by assumption) (Fr.keep (by assumption))); (case C => exact Nice.less (by assumption) (by decide)); intro l' r1' r2' r3' h' tk' a1' a2' a3' a4' b1' b2' b3' b4' c1' c2' c3' c4' k' M'; (have F' := Fr.stay (by assumption) k'); (have N' := News.made (by assumption) (by assumption) k' M'); clear M'); (try dsimp only); (try dsimp only [List.cons_append, List.nil_append] at N'); (try dsimp only at k'); (try k_sweep)))

local macro_rules | `(tactic| walk_at "call ref") => `(tactic| (k_here; (with_reducible show wpAny _ _ (call (Value.ref 241) _) _ _ _); k_dflt (refine' infinite_ok ?X ?T ?C  ?_; (case X => k_in); (case T => exact Top.keeps (by assumption) (Fr.keep (by assumption))); (case C => exact Nice.less (by assumption) (by decide));  intro r' h' tk' a' b' c' d' k' M'; (have F' := Fr.stay (by assumption) k'); (have N' := News.made (by assumption) (by assumption) k' M'); clear M'); (try dsimp only); (try dsimp only [List.cons_append, List.nil_append] at N'); (try dsimp only at k'); (try k_sweep)))
local macro_rules | `(tactic| walk_at "call ref") => `(tactic| (k_here; (with_reducible show wpAny _ _ (call (Value.ref 234) _) _ _ _); k_dflt (refine' great_ok ?X ?T ?C ?I ?_ ?_; (case X => k_in); (case T => exact Top.keeps (by assumption) (Fr.keep (by assumption))); (case C => exact Nice.less (by assumption) (by decide)); (case I => ktr_rel)); (all_goals (intro e'; first | (tb_start; done) | (intro h' tk' k'; (have F' := Fr.stay (by assumption) k'); (have N' := News.stay (by assumption) k'); (try dsimp only); (try dsimp only at k'); (try k_sweep))))))

local macro_rules | `(tactic| walk_at "call ref") => `(tactic| (k_here; (with_reducible show wpAny _ _ (call (Value.ref 248) _) _ _ _); k_dflt (refine' sum_ok ?X ?T ?C ?I ?J ?_; (case X => k_in); (case T => exact Top.keeps (by assumption) (Fr.keep (by assumption))); (case C => exact Nice.less (by assumption) (by decide)); (case I => ktr_rel); (case J => ktr_rel); intro r' h' tk' k' I'; (have F' := Fr.stay (by assumption) k'); (have N' := News.stay (by assumption) k')); (try dsimp only); (try dsimp only at k'); (try k_sweep)))
local macro_rules | `(tactic| walk_at "call ref") => `(tactic| (k_here; (with_reducible show wpAny _ _ (call (Value.ref 255) _) _ _ _); k_dflt (refine' prod_ok ?X ?T ?C ?I ?J ?_; (case X => k_in); (case T => exact Top.keeps (by assumption) (Fr.keep (by assumption))); (case C => exact Nice.less (by assumption) (by decide)); (case I => ktr_rel); (case J => ktr_rel); intro r' h' tk' k' I'; (have F' := Fr.stay (by assumption) k'); (have N' := News.stay (by assumption) k')); (try dsimp only); (try dsimp only at k'); (try k_sweep)))
local macro_rules | `(tactic| walk_at "call ref") => `(tactic| (k_here; (with_reducible show wpAny _ _ (call (Value.ref 269) _) _ _ _); k_dflt (refine' pow_ok ?X ?T ?C ?I ?_; (case X => k_in); (case T => exact Top.keeps (by assumption) (Fr.keep (by assumption))); (case C => exact Nice.less (by assumption) (by decide)); (case I => ktr_rel); intro r' h' tk' k' I'; (have F' := Fr.stay (by assumption) k'); (have N' := News.stay (by assumption) k')); (try dsimp only); (try dsimp only at k'); (try k_sweep)))
local macro_rules | `(tactic| walk_at "call ref") => `(tactic| (k_here; (with_reducible show wpAny _ _ (call (Value.ref 262) _) _ _ _); k_dflt (refine' quot_ok ?X ?T ?C ?I ?J ?_ ?_; (case X => k_in); (case T => exact Top.keeps (by assumption) (Fr.keep (by assumption))); (case C => exact Nice.less (by assumption) (by decide)); (case I => ktr_rel); (case J => ktr_rel)); (all_goals (intro e'; first | (tb_start; done) | ((first | intro r' h' tk' k' I' | intro h' tk' k'); (have F' := Fr.stay (by assumption) k'); (have N' := News.stay (by assumption) k'); (try dsimp only); (try dsimp only at k'); (try k_sweep))))))

section
variable {w : World} {A : Around} {E : Value → Shared → Prop} {s : Shared} {Q : Value → Shared → Prop}
  {p : Program} {loose : List Str} {mean : ExcName → Option Value} {mg mb : Str → Option Value} {x y : M4} {r q : Addr}


def addM (x y u : M4) : M4 := if x.2.1 = 0 ∧ x.2.2.1 ≠ 0 then (if x = u ∨ y.2.1 ≠ 0 ∨ y.2.2.1 = 0 then x else nan) else u

theorem add_ok {pr sb : Int} {tp ts : Tok} {rv : Value} {vs : List Value} (X : (hd.heap_39 w.params).In s.heap) (T : Top p loose mean mg mb s.heap) (C : Nice 2 A) (I : IsM s.heap r x) (J : IsM s.heap q y)
   (hb : BindsAt (hd.heap_39 w.params) 134 s vs [(Str.ofString "s", .ref r), (Str.ofString "t", .ref q), (Str.ofString "prec", .int pr tp), (Str.ofString "rnd", rv), (Str.ofString "_sub", .int sb ts)])
   (hodd : spM x ∨ spM y) (hsub : sb = 0 ∨ sb = 1)
   (h : ∀ r' h' tk', s.heap.StaysIn h' → IsM h' r' (addM x y (if sb = 0 then y else negM y)) → (sb = 0 → r' = r ∧ addM x y y = x ∨ r' = q ∧ addM x y y = y ∨ r' = 58 ∧ addM x y y = nan) → Q (.ref r') ⟨h', s.gens, s.drawn, tk', s.os⟩) : wpAny (model P0 w) A (call (.ref 134) vs) Q E s := by
  have B : Binds [(Str.ofString "s", .ref r), (Str.ofString "t", .ref q), (Str.ofString "prec", .int pr tp), (Str.ofString "rnd", rv), (Str.ofString "_sub", .int sb ts)] := trivial
  unfold spM at hodd
  kwd_inv
  kwd_less
  all_goals refine h _ _ _ (Fr.keep (by assumption)) (IsM.cast (by ktr_rel) ?_) ?_
  all_goals law_clear
  all_goals simp_all [addM]
theorem bind_add3 {a b c : Value} (X : (hd.heap_39 w.params).In s.heap) : BindsAt (hd.heap_39 w.params) 134 s [a, b, c] [(Str.ofString "s", a), (Str.ofString "t", b), (Str.ofString "prec", c), (Str.ofString "rnd", .str (Str.ofString "d") 252), (Str.ofString "_sub", .int 0 398)] :=
  bindsAt_of (by k_is) (binds_K X rfl (by k_is) rfl rfl rfl)
theorem bind_add4 {a b c d : Value} (X : (hd.heap_39 w.params).In s.heap) : BindsAt (hd.heap_39 w.params) 134 s [a, b, c, d] [(Str.ofString "s", a), (Str.ofString "t", b), (Str.ofString "prec", c), (Str.ofString "rnd", d), (Str.ofString "_sub", .int 0 398)] :=
  bindsAt_of (by k_is) (binds_K X rfl (by k_is) rfl rfl rfl)
end

end
section
local macro_rules | `(tactic| k_mem) => `(tactic| with_reducible assumption)
-- a tuple's fact
local macro_rules | `(tactic| ktr_rel) => `(tactic| first
  | with_reducible assumption
  | exact IsM.of_tup (Fr.tup (by k_asm) (by with_reducible assumption))
  | exact IsM.stay (Fr.keep (by k_asm)) (by with_reducible assumption)
  | exact IsM.of_news (by k_asm) (by k_mem)
  | exact IsM.of_newsO (by k_asm) (by k_mem) (by with_reducible assumption)
  | exact inf_at (by k_in)
  | exact ninf_at (by k_in)
  | exact nan_at (by k_in)
  | exact zero_at (by k_in)
  | exact one_at (by k_in)
  | exact IsM.stay (by with_reducible assumption) (by with_reducible assumption))
-- room
local macro_rules | `(tactic| ktr_room) => `(tactic| first | exact Nice.room (by assumption) | exact Nice.room1 (by assumption))
-- an absurd way
local macro_rules | `(tactic| ktr_unf) => `(tactic| first | exact absurd rfl (by assumption) | skip)
-- entering a def
local macro_rules | `(tactic| kwd_inv) => `(tactic| (
  refine' enter ?B ?X ?T ?C ?ho ?hcd ?hbind ?hloc ?_ ?c2 ?c3 ?c4 ?c5
  (case B => assumption)
  (case X => assumption)
  (case T => exact topRead_of (by assumption))
  (case C => assumption)
  (case ho => k_is)
  (case hcd => k_is)
  (case hbind => first | exact BindsAt.at (by assumption) (by k_is) | exact BindsTo.of_eq rfl | exact binds_K (by assumption) rfl (by k_is) rfl rfl rfl)
  (case hloc => exact locs rfl)
  (case c2 => exact rfl)
  (case c3 => exact rfl)
  (case c4 => exact rfl)
  (case c5 => decide)
  intro L' h' tk' F' N' C'
  (try dsimp only [List.reverse_cons, List.reverse_nil, List.nil_append, List.cons_append])
  (try dsimp only [List.reverse_cons, List.reverse_nil, List.nil_append, List.cons_append] at F')
  (try k_fold)))
-- a store
local macro_rules | `(tactic| walk_at "storeName") => `(tactic| (k_here; k_dflt (refine' storeT ?F ?N ?_ ?a ?b; (case F => k_asm); (case N => k_asm); (case a => rfl); (case b => rfl); k_whole; intro h' tk' F' N'); (try dsimp only); (try k_sweep)))
-- a new tuple of four ints
local macro_rules | `(tactic| walk_at "newTuple") => `(tactic| (k_here; k_dflt (refine' newTup4 ?F ?N ?_; (case F => k_asm); (case N => k_asm); intro D' h' ta' tb' tc' td' F' N' k'); (try dsimp only); (try dsimp only at k'); (try k_sweep)))
-- comparisons
local macro_rules | `(tactic| walk_at "compareOp Eq ref ref") => `(tactic| (k_here; k_dflt (refine' eqM ?I ?J ?u ?_ ?_; (case I => ktr_rel); (case J => ktr_rel); (case u => ktr_room)); (all_goals (intro e'; try tb_start))))
local macro_rules | `(tactic| walk_at "compareOp NotEq ref ref") => `(tactic| (k_here; k_dflt (refine' neM ?I ?J ?u ?_ ?_; (case I => ktr_rel); (case J => ktr_rel); (case u => ktr_room)); (all_goals (intro e'; try tb_start))))
local macro_rules | `(tactic| tb_start) => `(tactic| first | exact absurd rfl (by assumption) | (exfalso; omega) | (exfalso; law_clear; simp_all; done))
-- unpacking
local macro_rules | `(tactic| walk_at "assign Tuple") => `(tactic| (k_here; (with_reducible show wpAny _ _ (assign (Expr.Tuple _ _ _) _ (Value.ref _)) _ _ _); k_dflt (refine' unpackM ?F ?N ?I ?C ?n ?s ?_; (case F => k_asm); (case N => k_asm); (case I => ktr_rel); (case C => assumption); (case n => exact rfl); (case s => exact rfl); intro h' ta' tb' tc' td' F' N'); (try dsimp only); (try k_sweep)))
-- the walk
local macro_rules | `(tactic| kwd_less) => `(tactic| (w_top on; (repeat' (first | (k_unmd; k_unfold; (try dsimp only)) | walk1 | (dsimp only; first | (k_unmd; k_unfold; (try dsimp only)) | walk1) | fail "no step")); (all_goals (try dsimp only))))
local macro_rules | `(tactic| walk_at "assign Tuple") => `(tactic| (k_here; (with_reducible show wpAny _ _ (assign (Expr.Tuple [_, _] _ _) _ (Value.ref _)) _ _ _); k_dflt (refine' unpackN_ ?F ?N ?I ?C ?n ?s ?_; (case F => k_asm); (case N => k_asm); (case I => exact News.isTup (by k_asm) (by k_mem)); (case C => exact Nice.hh (by assumption)); (case n => exact rfl); (case s => exact rfl); intro h' F' N'); (try dsimp only); (try k_sweep)))
local macro_rules | `(tactic| walk_at "unpackItems ref") => `(tactic| (k_here; k_dflt (refine' unpackItemsN_ ?F ?N ?I ?C ?n ?_; (case F => k_asm); (case N => k_asm); (case I => exact News.isTup (by k_asm) (by k_mem)); (case C => exact Nice.hh (by assumption)); (case n => exact rfl); intro h' F' N'); (try dsimp only); (try k_sweep)))
-- an item of a tuple of four
local macro_rules | `(tactic| walk_at "subscriptTail") => `(tactic| (k_here; (with_reducible show wpAny _ _ (subscriptTail _ _ (Value.ref _) (Value.int 0 _)) _ _ _); k_dflt (refine' item4_0 ?I ?_ ?hs; (case I => ktr_rel); (case hs => with_unfolding_all rfl)); k_whole; intro t'; (try dsimp only)))
local macro_rules | `(tactic| walk_at "subscriptTail") => `(tactic| (k_here; (with_reducible show wpAny _ _ (subscriptTail _ _ (Value.ref _) (Value.int 1 _)) _ _ _); k_dflt (refine' item4_1 ?I ?_ ?hs; (case I => ktr_rel); (case hs => with_unfolding_all rfl)); k_whole; intro t'; (try dsimp only)))
local macro_rules | `(tactic| walk_at "subscriptTail") => `(tactic| (k_here; (with_reducible show wpAny _ _ (subscriptTail _ _ (Value.ref _) (Value.int 2 _)) _ _ _); k_dflt (refine' item4_2 ?I ?_ ?hs; (case I => ktr_rel); (case hs => with_unfolding_all rfl)); k_whole; intro t'; (try dsimp only)))
local macro_rules | `(tactic| walk_at "subscriptTail") => `(tactic| (k_here; (with_reducible show wpAny _ _ (subscriptTail _ _ (Value.ref _) (Value.int 3 _)) _ _ _); k_dflt (refine' item4_3 ?I ?_ ?hs; (case I => ktr_rel); (case hs => with_unfolding_all rfl)); k_whole; intro t'; (try dsimp only)))
-- membership
local macro_rules | `(tactic| ktd_rel) => `(tactic| first | exact AreM.nil | (refine' AreM.cons ?a ?b; (case a => ktr_rel); (case b => ktd_rel)))
local macro_rules | `(tactic| walk_at "compareOp In ref ref") => `(tactic| (k_here; k_dflt (first
  | (refine' inListM ?l ?G ?J ?u ?_ ?_; (case l => exact News.isList (by k_asm) (by k_mem)); (case G => ktd_rel); (case J => ktr_rel); (case u => ktr_room))
  | (refine' inTupM ?l ?G ?J ?u ?_ ?_; (case l => exact News.isTup (by k_asm) (by k_mem)); (case G => ktd_rel); (case J => ktr_rel); (case u => ktr_room))); (all_goals (intro e'; (try simp only [List.mem_cons, List.not_mem_nil, or_false] at e'); try tb_start))))
-- a branch that the facts decide
local macro_rules | `(tactic| kwd_rel) => `(tactic| first | with_reducible assumption | (simp only [decide_eq_true_eq, decide_eq_false_iff_not, Bool.not_eq_true, Bool.not_eq_false, bne_iff_ne, beq_iff_eq, bne_eq_false_iff_eq, beq_eq_false_iff_ne, Bool.and_eq_true, Bool.or_eq_true, Bool.not_eq_true', Bool.not_eq_false', ne_eq]; omega) | omega)
local macro_rules | `(tactic| walk_at "ite") => `(tactic| (k_here; k_openite; k_dflt (first | (refine' ite_pos ?c ?_; (case c => kwd_rel)) | (refine' ite_neg ?c ?_; (case c => kwd_rel))); walk_say "CUT"))
-- a dict display by ints
local macro_rules | `(tactic| walk_at "eval Dict") => `(tactic| (k_here; k_dflt (refine' kdn_eval (knd := PySem.intKind _ _) ?F ?N ?b ?a ?l ?e ?n ?_; (case F => k_asm); (case N => k_asm); (case b => exact Top.nolimit (by k_asm)); (case a => rfl); (case l => rfl); (case e => exact List.cons_ne_nil _ _); (case n => exact Nat.le_of_ble_eq_true rfl)); intro d' h' o' F' N' l1 lo' hd'; (try k_lt l1)))
-- a written condition, ahead of all
local macro_rules | `(tactic| walk_at "ite") => `(tactic| (k_closed; k_dflt (first | refine ite_pos (by decide) ?_ | refine ite_neg (by decide) ?_)))
local macro_rules | `(tactic| walk_at "ite") => `(tactic| (k_here; first | with_reducible refine ite_tt ?_ | with_reducible refine ite_ff ?_))
-- a name of the frame's or of the top's, ahead of the kit's other lines
local macro_rules | `(tactic| walk_at "eval Name") => `(tactic| (k_here; (fail_if_success (with_reducible show wpAny _ _ (eval _ (compEnvC _ _ _ _)) _ _ _)); k_dflt (first | (refine' nameX_L ?F ?v ?_ ?a ?b; (case F => k_asm); (case a => rfl); (case b => rfl); (case v => rfl); k_whole) | (refine' nameX_K ?F ?X ?T ?e ?_ ?a ?b; (case F => k_asm); (case X => k_asm); (case T => k_asm); (case a => rfl); (case b => rfl); (case e => k_is); k_whole))))

local macro_rules | `(tactic| walk_at "call ref") => `(tactic| (k_here; (with_reducible show wpAny _ _ (call (Value.ref 111) _) _ _ _); k_dflt (refine' neg_ok ?X ?T ?C ?I ?_; (case X => k_in); (case T => exact Top.keeps (by assumption) (Fr.keep (by assumption))); (case C => exact Nice.less (by assumption) (by decide)); (case I => ktr_rel); intro r' h' tk' k' I'; (have F' := Fr.stay (by assumption) k'); (have N' := News.stay (by assumption) k'); (have P' := IsM.place F' N' I'); clear I'; (rcases P' with I0' | ⟨o', N2', hO'⟩)); (all_goals ((try dsimp only); (try dsimp only at k'); (try k_sweep)))))
local macro_rules | `(tactic| walk_at "call ref") => `(tactic| (k_here; (with_reducible show wpAny _ _ (call (Value.ref 126) _) _ _ _); k_dflt (refine' sign_ok3 ?X ?T ?C ?I ?S ?_ ?_ ?_; (case X => k_in); (case T => exact Top.keeps (by assumption) (Fr.keep (by assumption))); (case C => exact Nice.less (by assumption) (by decide)); (case I => ktr_rel); (case S => exact (Ok.facts (by assumption)).1)); (all_goals (intro e'; first | (exfalso; (rcases sign_zero (by assumption) e' with z | z) <;> (subst z; law_clear; simp_all; done)) | (intro h' tk' t' k'; (have F' := Fr.stay (by assumption) k'); (have N' := News.stay (by assumption) k'); (try dsimp only); (try dsimp only at k'); (try k_sweep))))))
local macro_rules | `(tactic| walk_at "call ref") => `(tactic| (k_here; (with_reducible show wpAny _ _ (call (Value.ref 227) _) _ _ _); k_dflt (refine' lsign_ok ?X ?T ?C ?I ?_; (case X => k_in); (case T => exact Top.keeps (by assumption) (Fr.keep (by assumption))); (case C => exact Nice.less (by assumption) (by decide)); (case I => ktr_rel); intro h' tk' t' k' lo' hi'; (have F' := Fr.stay (by assumption) k'); (have N' := News.stay (by assumption) k')); (try dsimp only); (try dsimp only at k'); (try k_sweep)))
local macro_rules | `(tactic| walk_at "call ref") => `(tactic| (k_here; (with_reducible show wpAny _ _ (call (Value.ref 220) _) _ _ _); k_dflt (refine' others_ok ?X ?T ?C ?_; (case X => k_in); (case T => exact Top.keeps (by assumption) (Fr.keep (by assumption))); (case C => exact Nice.less (by assumption) (by decide)); intro l' r1' r2' r3' h' tk' a1' a2' a3' a4' b1' b2' b3' b4' c1' c2' c3' c4' k' M'; (have F' := Fr.stay (by assumption) k'); (have N' := News.made (by assumption) (by assumption) k' M'); clear M'); (try dsimp only); (try dsimp only [List.cons_append, List.nil_append] at N'); (try dsimp only at k'); (try k_sweep)))

local macro_rules | `(tactic| walk_at "call ref") => `(tactic| (k_here; (with_reducible show wpAny _ _ (call (Value.ref 241) _) _ _ _); k_dflt (refine' infinite_ok ?X ?T ?C  ?_; (case X => k_in); (case T => exact Top.keeps (by assumption) (Fr.keep (by assumption))); (case C => exact Nice.less (by assumption) (by decide));  intro r' h' tk' a' b' c' d' k' M'; (have F' := Fr.stay (by assumption) k'); (have N' := News.made (by assumption) (by assumption) k' M'); clear M'); (try dsimp only); (try dsimp only [List.cons_append, List.nil_append] at N'); (try dsimp only at k'); (try k_sweep)))
local macro_rules | `(tactic| walk_at "call ref") => `(tactic| (k_here; (with_reducible show wpAny _ _ (call (Value.ref 234) _) _ _ _); k_dflt (refine' great_ok ?X ?T ?C ?I ?_ ?_; (case X => k_in); (case T => exact Top.keeps (by assumption) (Fr.keep (by assumption))); (case C => exact Nice.less (by assumption) (by decide)); (case I => ktr_rel)); (all_goals (intro e'; first | (tb_start; done) | (intro h' tk' k'; (have F' := Fr.stay (by assumption) k'); (have N' := News.stay (by assumption) k'); (try dsimp only); (try dsimp only at k'); (try k_sweep))))))

local macro_rules | `(tactic| walk_at "call ref") => `(tactic| (k_here; (with_reducible show wpAny _ _ (call (Value.ref 248) _) _ _ _); k_dflt (refine' sum_ok ?X ?T ?C ?I ?J ?_; (case X => k_in); (case T => exact Top.keeps (by assumption) (Fr.keep (by assumption))); (case C => exact Nice.less (by assumption) (by decide)); (case I => ktr_rel); (case J => ktr_rel); intro r' h' tk' k' I'; (have F' := Fr.stay (by assumption) k'); (have N' := News.stay (by assumption) k')); (try dsimp only); (try dsimp only at k'); (try k_sweep)))
local macro_rules | `(tactic| walk_at "call ref") => `(tactic| (k_here; (with_reducible show wpAny _ _ (call (Value.ref 255) _) _ _ _); k_dflt (refine' prod_ok ?X ?T ?C ?I ?J ?_; (case X => k_in); (case T => exact Top.keeps (by assumption) (Fr.keep (by assumption))); (case C => exact Nice.less (by assumption) (by decide)); (case I => ktr_rel); (case J => ktr_rel); intro r' h' tk' k' I'; (have F' := Fr.stay (by assumption) k'); (have N' := News.stay (by assumption) k')); (try dsimp only); (try dsimp only at k'); (try k_sweep)))
local macro_rules | `(tactic| walk_at "call ref") => `(tactic| (k_here; (with_reducible show wpAny _ _ (call (Value.ref 269) _) _ _ _); k_dflt (refine' pow_ok ?X ?T ?C ?I ?_; (case X => k_in); (case T => exact Top.keeps (by assumption) (Fr.keep (by assumption))); (case C => exact Nice.less (by assumption) (by decide)); (case I => ktr_rel); intro r' h' tk' k' I'; (have F' := Fr.stay (by assumption) k'); (have N' := News.stay (by assumption) k')); (try dsimp only); (try dsimp only at k'); (try k_sweep)))
local macro_rules | `(tactic| walk_at "call ref") => `(tactic| (k_here; (with_reducible show wpAny _ _ (call (Value.ref 262) _) _ _ _); k_dflt (refine' quot_ok ?X ?T ?C ?I ?J ?_ ?_; (case X => k_in); (case T => exact Top.keeps (by assumption) (Fr.keep (by assumption))); (case C => exact Nice.less (by assumption) (by decide)); (case I => ktr_rel); (case J => ktr_rel)); (all_goals (intro e'; first | (tb_start; done) | ((first | intro r' h' tk' k' I' | intro h' tk' k'); (have F' := Fr.stay (by assumption) k'); (have N' := News.stay (by assumption) k'); (try dsimp only); (try dsimp only at k'); (try k_sweep))))))

local macro_rules | `(tactic| walk_at "call ref") => `(tactic| (k_here; (with_reducible show wpAny _ _ (call (Value.ref 134) _) _ _ _); k_dflt (refine' add_ok ?X ?T ?C ?I ?J ?hb ?ho ?hs ?_; (case hb => first | exact bind_add4 (by k_in) | exact bindsAt_of (by k_is) (by first | exact BindsTo.of_eq rfl | exact binds_K (by k_in) rfl (by k_is) rfl rfl rfl)); (case X => k_in); (case T => exact Top.keeps (by assumption) (Fr.keep (by assumption))); (case C => exact Nice.less (by assumption) (by decide)); (case I => ktr_rel); (case J => ktr_rel); (case ho => kwd_rel); (case hs => first | exact Or.inl rfl | exact Or.inr rfl); intro r' h' tk' k' I' _; (have F' := Fr.stay (by assumption) k'); (have N' := News.stay (by assumption) k')); (try dsimp only); (try dsimp only at k'); (try k_sweep)))

section
variable {w : World} {A : Around} {E : Value → Shared → Prop} {s : Shared} {Q : Value → Shared → Prop}
  {p : Program} {loose : List Str} {mean : ExcName → Option Value} {mg mb : Str → Option Value} {x y : M4} {r q : Addr}


theorem sub_ok {pr : Int} {tp : Tok} {rv : Value} (X : (hd.heap_39 w.params).In s.heap) (T : Top p loose mean mg mb s.heap) (C : Nice 3 A) (I : IsM s.heap r x) (J : IsM s.heap q y)
   (hodd : spM x ∨ spM y)
   (h : ∀ r' h' tk', s.heap.StaysIn h' → IsM h' r' (addM x y (negM y)) → Q (.ref r') ⟨h', s.gens, s.drawn, tk', s.os⟩) : wpAny (model P0 w) A (call (.ref 142) [.ref r, .ref q, .int pr tp, rv]) Q E s := by
  have B : Binds [(Str.ofString "s", .ref r), (Str.ofString "t", .ref q), (Str.ofString "prec", .int pr tp), (Str.ofString "rnd", rv)] := trivial
  kwd_inv
  kwd_less
  all_goals refine h _ _ _ (Fr.keep (by assumption)) (IsM.cast (by ktr_rel) ?_)
  all_goals simp

theorem lsign_eq (ox : Ok x) (n : x ≠ nan) : lsignM x = signM x := by
  rcases ox with rfl | rfl | rfl | rfl | ⟨h1, h2, _⟩
  · rfl
  · rfl
  · exact absurd rfl n
  · rfl
  · unfold lsignM signM
    rw [if_neg (fun e => by rw [e] at h2; exact absurd h2 (by decide)), if_neg (by omega : ¬ x.2.1 = 0)]
    rcases h1 with h | h <;> rw [h] <;> rfl
theorem prod_nan (e : nan = x ∨ nan = y) : prodM x y = nan := by
  unfold prodM
  rw [if_pos (by rcases e with e | e; exact .inl e.symm; exact .inr (.inl e.symm))]
theorem prod_zero (e : x = zero ∨ y = zero) : prodM x y = nan := by
  unfold prodM
  rw [if_pos]
  rcases e with e | e
  · subst e; exact .inr (.inr (Int.zero_mul _))
  · subst e; exact .inr (.inr (Int.mul_zero _))
theorem prod_sign {i j : Int} (ox : Ok x) (oy : Ok y) (n : ¬ (nan = x ∨ nan = y)) (hi : signM x = i) (hj : signM y = j) (h : i * j ≠ 0) : prodM x y = if 0 < i * j then inf else ninf := by
  have nx : x ≠ nan := fun e => n (.inl e.symm)
  have ny : y ≠ nan := fun e => n (.inr e.symm)
  unfold prodM
  rw [lsign_eq ox nx, lsign_eq oy ny, hi, hj, if_neg (by rintro (e | e | e); exact nx e; exact ny e; exact h e)]

theorem mul_ok {pr : Int} {tp : Tok} {rv : Value} {vs : List Value} (X : (hd.heap_39 w.params).In s.heap) (T : Top p loose mean mg mb s.heap) (C : Nice 2 A) (I : IsM s.heap r x) (J : IsM s.heap q y)
   (hb : BindsAt (hd.heap_39 w.params) 158 s vs [(Str.ofString "s", .ref r), (Str.ofString "t", .ref q), (Str.ofString "prec", .int pr tp), (Str.ofString "rnd", rv)])
   (ox : Ok x) (oy : Ok y) (hodd : spM x ∨ spM y)
   (h : ∀ r' h' tk', s.heap.StaysIn h' → IsM h' r' (prodM x y) → Q (.ref r') ⟨h', s.gens, s.drawn, tk', s.os⟩) : wpAny (model P0 w) A (call (.ref 158) vs) Q E s := by
  have B : Binds [(Str.ofString "s", .ref r), (Str.ofString "t", .ref q), (Str.ofString "prec", .int pr tp), (Str.ofString "rnd", rv)] := trivial
  have fx := ox.facts
  have fy := oy.facts
  have hm : x.2.1 * y.2.1 = 0 := by
    rcases hodd with h | h
    · rw [h.1, Int.zero_mul]
    · rw [h.1, Int.mul_zero]
  unfold spM at hodd
  obtain ⟨fx1, fx2, fx3, fx4, fx5⟩ := fx
  obtain ⟨fy1, fy2, fy3, fy4, fy5⟩ := fy
  kwd_inv
  kwd_less
  all_goals refine h _ _ _ (Fr.keep (by assumption)) (IsM.cast (by ktr_rel) ?_)
  all_goals first
    | exact (prod_nan (by assumption)).symm
    | exact (prod_zero (Or.inl (by assumption))).symm
    | exact (prod_zero (Or.inr (by assumption))).symm
    | (rw [prod_sign ox oy (by assumption) (by assumption) (by assumption) (by decide)]; decide)
end

end
section
local macro_rules | `(tactic| k_mem) => `(tactic| with_reducible assumption)
-- a tuple's fact
local macro_rules | `(tactic| ktr_rel) => `(tactic| first
  | with_reducible assumption
  | exact IsM.of_tup (Fr.tup (by k_asm) (by with_reducible assumption))
  | exact IsM.stay (Fr.keep (by k_asm)) (by with_reducible assumption)
  | exact IsM.of_news (by k_asm) (by k_mem)
  | exact IsM.of_newsO (by k_asm) (by k_mem) (by with_reducible assumption)
  | exact inf_at (by k_in)
  | exact ninf_at (by k_in)
  | exact nan_at (by k_in)
  | exact zero_at (by k_in)
  | exact one_at (by k_in)
  | exact IsM.stay (by with_reducible assumption) (by with_reducible assumption))
-- room
local macro_rules | `(tactic| ktr_room) => `(tactic| first | exact Nice.room (by assumption) | exact Nice.room1 (by assumption))
-- an absurd way
local macro_rules | `(tactic| ktr_unf) => `(tactic| first | exact absurd rfl (by assumption) | skip)
-- entering a def
local macro_rules | `(tactic| kwd_inv) => `(tactic| (
  refine' enter ?B ?X ?T ?C ?ho ?hcd ?hbind ?hloc ?_ ?c2 ?c3 ?c4 ?c5
  (case B => assumption)
  (case X => assumption)
  (case T => exact topRead_of (by assumption))
  (case C => assumption)
  (case ho => k_is)
  (case hcd => k_is)
  (case hbind => first | exact BindsAt.at (by assumption) (by k_is) | exact BindsTo.of_eq rfl | exact binds_K (by assumption) rfl (by k_is) rfl rfl rfl)
  (case hloc => exact locs rfl)
  (case c2 => exact rfl)
  (case c3 => exact rfl)
  (case c4 => exact rfl)
  (case c5 => decide)
  intro L' h' tk' F' N' C'
  (try dsimp only [List.reverse_cons, List.reverse_nil, List.nil_append, List.cons_append])
  (try dsimp only [List.reverse_cons, List.reverse_nil, List.nil_append, List.cons_append] at F')
  (try k_fold)))
-- a store
local macro_rules | `(tactic| walk_at "storeName") => `(tactic| (k_here; k_dflt (refine' storeT ?F ?N ?_ ?a ?b; (case F => k_asm); (case N => k_asm); (case a => rfl); (case b => rfl); k_whole; intro h' tk' F' N'); (try dsimp only); (try k_sweep)))
-- a new tuple of four ints
local macro_rules | `(tactic| walk_at "newTuple") => `(tactic| (k_here; k_dflt (refine' newTup4 ?F ?N ?_; (case F => k_asm); (case N => k_asm); intro D' h' ta' tb' tc' td' F' N' k'); (try dsimp only); (try dsimp only at k'); (try k_sweep)))
-- comparisons
local macro_rules | `(tactic| walk_at "compareOp Eq ref ref") => `(tactic| (k_here; k_dflt (refine' eqM ?I ?J ?u ?_ ?_; (case I => ktr_rel); (case J => ktr_rel); (case u => ktr_room)); (all_goals (intro e'; try tb_start))))
local macro_rules | `(tactic| walk_at "compareOp NotEq ref ref") => `(tactic| (k_here; k_dflt (refine' neM ?I ?J ?u ?_ ?_; (case I => ktr_rel); (case J => ktr_rel); (case u => ktr_room)); (all_goals (intro e'; try tb_start))))
local macro_rules | `(tactic| tb_start) => `(tactic| first | exact absurd rfl (by assumption) | (exfalso; omega) | (exfalso; law_clear; simp_all; done))
-- unpacking
local macro_rules | `(tactic| walk_at "assign Tuple") => `(tactic| (k_here; (with_reducible show wpAny _ _ (assign (Expr.Tuple _ _ _) _ (Value.ref _)) _ _ _); k_dflt (refine' unpackM ?F ?N ?I ?C ?n ?s ?_; (case F => k_asm); (case N => k_asm); (case I => ktr_rel); (case C => assumption); (case n => exact rfl); (case s => exact rfl); intro h' ta' tb' tc' td' F' N'); (try dsimp only); (try k_sweep)))
-- the walk
local macro_rules | `(tactic| kwd_less) => `(tactic| (w_top on; (repeat' (first | (k_unmd; k_unfold; (try dsimp only)) | walk1 | (dsimp only; first | (k_unmd; k_unfold; (try dsimp only)) | walk1) | fail "no step")); (all_goals (try dsimp only))))
local macro_rules | `(tactic| walk_at "assign Tuple") => `(tactic| (k_here; (with_reducible show wpAny _ _ (assign (Expr.Tuple [_, _] _ _) _ (Value.ref _)) _ _ _); k_dflt (refine' unpackN_ ?F ?N ?I ?C ?n ?s ?_; (case F => k_asm); (case N => k_asm); (case I => exact News.isTup (by k_asm) (by k_mem)); (case C => exact Nice.hh (by assumption)); (case n => exact rfl); (case s => exact rfl); intro h' F' N'); (try dsimp only); (try k_sweep)))
local macro_rules | `(tactic| walk_at "unpackItems ref") => `(tactic| (k_here; k_dflt (refine' unpackItemsN_ ?F ?N ?I ?C ?n ?_; (case F => k_asm); (case N => k_asm); (case I => exact News.isTup (by k_asm) (by k_mem)); (case C => exact Nice.hh (by assumption)); (case n => exact rfl); intro h' F' N'); (try dsimp only); (try k_sweep)))
-- an item of a tuple of four
local macro_rules | `(tactic| walk_at "subscriptTail") => `(tactic| (k_here; (with_reducible show wpAny _ _ (subscriptTail _ _ (Value.ref _) (Value.int 0 _)) _ _ _); k_dflt (refine' item4_0 ?I ?_ ?hs; (case I => ktr_rel); (case hs => with_unfolding_all rfl)); k_whole; intro t'; (try dsimp only)))
local macro_rules | `(tactic| walk_at "subscriptTail") => `(tactic| (k_here; (with_reducible show wpAny _ _ (subscriptTail _ _ (Value.ref _) (Value.int 1 _)) _ _ _); k_dflt (refine' item4_1 ?I ?_ ?hs; (case I => ktr_rel); (case hs => with_unfolding_all rfl)); k_whole; intro t'; (try dsimp only)))
local macro_rules | `(tactic| walk_at "subscriptTail") => `(tactic| (k_here; (with_reducible show wpAny _ _ (subscriptTail _ _ (Value.ref _) (Value.int 2 _)) _ _ _); k_dflt (refine' item4_2 ?I ?_ ?hs; (case I => ktr_rel); (case hs => with_unfolding_all rfl)); k_whole; intro t'; (try dsimp only)))
local macro_rules | `(tactic| walk_at "subscriptTail") => `(tactic| (k_here; (with_reducible show wpAny _ _ (subscriptTail _ _ (Value.ref _) (Value.int 3 _)) _ _ _); k_dflt (refine' item4_3 ?I ?_ ?hs; (case I => ktr_rel); (case hs => with_unfolding_all rfl)); k_whole; intro t'; (try dsimp only)))
-- membership
local macro_rules | `(tactic| ktd_rel) => `(tactic| first | exact AreM.nil | (refine' AreM.cons ?a ?b; (case a => ktr_rel); (case b => ktd_rel)))
local macro_rules | `(tactic| walk_at "compareOp In ref ref") => `(tactic| (k_here; k_dflt (first
  | (refine' inListM ?l ?G ?J ?u ?_ ?_; (case l => exact News.isList (by k_asm) (by k_mem)); (case G => ktd_rel); (case J => ktr_rel); (case u => ktr_room))
  | (refine' inTupM ?l ?G ?J ?u ?_ ?_; (case l => exact News.isTup (by k_asm) (by k_mem)); (case G => ktd_rel); (case J => ktr_rel); (case u => ktr_room))); (all_goals (intro e'; (try simp only [List.mem_cons, List.not_mem_nil, or_false] at e'); try tb_start))))
-- a branch that the facts decide
local macro_rules | `(tactic| kwd_rel) => `(tactic| first | with_reducible assumption | (simp only [decide_eq_true_eq, decide_eq_false_iff_not, Bool.not_eq_true, Bool.not_eq_false, bne_iff_ne, beq_iff_eq, bne_eq_false_iff_eq, beq_eq_false_iff_ne, Bool.and_eq_true, Bool.or_eq_true, Bool.not_eq_true', Bool.not_eq_false', ne_eq]; omega) | omega)
local macro_rules | `(tactic| walk_at "ite") => `(tactic| (k_here; k_openite; k_dflt (first | (refine' ite_pos ?c ?_; (case c => kwd_rel)) | (refine' ite_neg ?c ?_; (case c => kwd_rel))); walk_say "CUT"))
-- a dict display by ints
local macro_rules | `(tactic| walk_at "eval Dict") => `(tactic| (k_here; k_dflt (refine' kdn_eval (knd := PySem.intKind _ _) ?F ?N ?b ?a ?l ?e ?n ?_; (case F => k_asm); (case N => k_asm); (case b => exact Top.nolimit (by k_asm)); (case a => rfl); (case l => rfl); (case e => exact List.cons_ne_nil _ _); (case n => exact Nat.le_of_ble_eq_true rfl)); intro d' h' o' F' N' l1 lo' hd'; (try k_lt l1)))
-- a written condition, ahead of all
local macro_rules | `(tactic| walk_at "ite") => `(tactic| (k_closed; k_dflt (first | refine ite_pos (by decide) ?_ | refine ite_neg (by decide) ?_)))
local macro_rules | `(tactic| walk_at "ite") => `(tactic| (k_here; first | with_reducible refine ite_tt ?_ | with_reducible refine ite_ff ?_))
-- a name of the frame's or of the top's, ahead of the kit's other lines
local macro_rules | `(tactic| walk_at "eval Name") => `(tactic| (k_here; (fail_if_success (with_reducible show wpAny _ _ (eval _ (compEnvC _ _ _ _)) _ _ _)); k_dflt (first | (refine' nameX_L ?F ?v ?_ ?a ?b; (case F => k_asm); (case a => rfl); (case b => rfl); (case v => rfl); k_whole) | (refine' nameX_K ?F ?X ?T ?e ?_ ?a ?b; (case F => k_asm); (case X => k_asm); (case T => k_asm); (case a => rfl); (case b => rfl); (case e => k_is); k_whole))))

local macro_rules | `(tactic| walk_at "call ref") => `(tactic| (k_here; (with_reducible show wpAny _ _ (call (Value.ref 111) _) _ _ _); k_dflt (refine' neg_ok ?X ?T ?C ?I ?_; (case X => k_in); (case T => exact Top.keeps (by assumption) (Fr.keep (by assumption))); (case C => exact Nice.less (by assumption) (by decide)); (case I => ktr_rel); intro r' h' tk' k' I'; (have F' := Fr.stay (by assumption) k'); (have N' := News.stay (by assumption) k'); (have P' := IsM.place F' N' I'); clear I'; (rcases P' with I0' | ⟨o', N2', hO'⟩)); (all_goals ((try dsimp only); (try dsimp only at k'); (try k_sweep)))))
local macro_rules | `(tactic| walk_at "call ref") => `(tactic| (k_here; (with_reducible show wpAny _ _ (call (Value.ref 126) _) _ _ _); k_dflt (refine' sign_ok3 ?X ?T ?C ?I ?S ?_ ?_ ?_; (case X => k_in); (case T => exact Top.keeps (by assumption) (Fr.keep (by assumption))); (case C => exact Nice.less (by assumption) (by decide)); (case I => ktr_rel); (case S => exact (Ok.facts (by assumption)).1)); (all_goals (intro e'; first | (exfalso; (rcases sign_zero (by assumption) e' with z | z) <;> (subst z; law_clear; simp_all; done)) | (intro h' tk' t' k'; (have F' := Fr.stay (by assumption) k'); (have N' := News.stay (by assumption) k'); (try dsimp only); (try dsimp only at k'); (try k_sweep))))))
local macro_rules | `(tactic| walk_at "call ref") => `(tactic| (k_here; (with_reducible show wpAny _ _ (call (Value.ref 227) _) _ _ _); k_dflt (refine' lsign_ok ?X ?T ?C ?I ?_; (case X => k_in); (case T => exact Top.keeps (by assumption) (Fr.keep (by assumption))); (case C => exact Nice.less (by assumption) (by decide)); (case I => ktr_rel); intro h' tk' t' k' lo' hi'; (have F' := Fr.stay (by assumption) k'); (have N' := News.stay (by assumption) k')); (try dsimp only); (try dsimp only at k'); (try k_sweep)))
local macro_rules | `(tactic| walk_at "call ref") => `(tactic| (k_here; (with_reducible show wpAny _ _ (call (Value.ref 220) _) _ _ _); k_dflt (refine' others_ok ?X ?T ?C ?_; (case X => k_in); (case T => exact Top.keeps (by assumption) (Fr.keep (by assumption))); (case C => exact Nice.less (by assumption) (by decide)); intro l' r1' r2' r3' h' tk' a1' a2' a3' a4' b1' b2' b3' b4' c1' c2' c3' c4' k' M'; (have F' := Fr.stay (by assumption) k'); (have N' := News.made (by assumption) (by assumption) k' M'); clear M'); (try dsimp only); (try dsimp only [List.cons_append, List.nil_append] at N'); (try dsimp only at k'); (try k_sweep)))

local macro_rules | `(tactic| walk_at "call ref") => `(tactic| (k_here; (with_reducible show wpAny _ _ (call (Value.ref 241) _) _ _ _); k_dflt (refine' infinite_ok ?X ?T ?C  ?_; (case X => k_in); (case T => exact Top.keeps (by assumption) (Fr.keep (by assumption))); (case C => exact Nice.less (by assumption) (by decide));  intro r' h' tk' a' b' c' d' k' M'; (have F' := Fr.stay (by assumption) k'); (have N' := News.made (by assumption) (by assumption) k' M'); clear M'); (try dsimp only); (try dsimp only [List.cons_append, List.nil_append] at N'); (try dsimp only at k'); (try k_sweep)))
local macro_rules | `(tactic| walk_at "call ref") => `(tactic| (k_here; (with_reducible show wpAny _ _ (call (Value.ref 234) _) _ _ _); k_dflt (refine' great_ok ?X ?T ?C ?I ?_ ?_; (case X => k_in); (case T => exact Top.keeps (by assumption) (Fr.keep (by assumption))); (case C => exact Nice.less (by assumption) (by decide)); (case I => ktr_rel)); (all_goals (intro e'; first | (tb_start; done) | (intro h' tk' k'; (have F' := Fr.stay (by assumption) k'); (have N' := News.stay (by assumption) k'); (try dsimp only); (try dsimp only at k'); (try k_sweep))))))

local macro_rules | `(tactic| walk_at "call ref") => `(tactic| (k_here; (with_reducible show wpAny _ _ (call (Value.ref 248) _) _ _ _); k_dflt (refine' sum_ok ?X ?T ?C ?I ?J ?_; (case X => k_in); (case T => exact Top.keeps (by assumption) (Fr.keep (by assumption))); (case C => exact Nice.less (by assumption) (by decide)); (case I => ktr_rel); (case J => ktr_rel); intro r' h' tk' k' I'; (have F' := Fr.stay (by assumption) k'); (have N' := News.stay (by assumption) k')); (try dsimp only); (try dsimp only at k'); (try k_sweep)))
local macro_rules | `(tactic| walk_at "call ref") => `(tactic| (k_here; (with_reducible show wpAny _ _ (call (Value.ref 255) _) _ _ _); k_dflt (refine' prod_ok ?X ?T ?C ?I ?J ?_; (case X => k_in); (case T => exact Top.keeps (by assumption) (Fr.keep (by assumption))); (case C => exact Nice.less (by assumption) (by decide)); (case I => ktr_rel); (case J => ktr_rel); intro r' h' tk' k' I'; (have F' := Fr.stay (by assumption) k'); (have N' := News.stay (by assumption) k')); (try dsimp only); (try dsimp only at k'); (try k_sweep)))
local macro_rules | `(tactic| walk_at "call ref") => `(tactic| (k_here; (with_reducible show wpAny _ _ (call (Value.ref 269) _) _ _ _); k_dflt (refine' pow_ok ?X ?T ?C ?I ?_; (case X => k_in); (case T => exact Top.keeps (by assumption) (Fr.keep (by assumption))); (case C => exact Nice.less (by assumption) (by decide)); (case I => ktr_rel); intro r' h' tk' k' I'; (have F' := Fr.stay (by assumption) k'); (have N' := News.stay (by assumption) k')); (try dsimp only); (try dsimp only at k'); (try k_sweep)))
local macro_rules | `(tactic| walk_at "call ref") => `(tactic| (k_here; (with_reducible show wpAny _ _ (call (Value.ref 262) _) _ _ _); k_dflt (refine' quot_ok ?X ?T ?C ?I ?J ?_ ?_; (case X => k_in); (case T => exact Top.keeps (by assumption) (Fr.keep (by assumption))); (case C => exact Nice.less (by assumption) (by decide)); (case I => ktr_rel); (case J => ktr_rel)); (all_goals (intro e'; first | (tb_start; done) | ((first | intro r' h' tk' k' I' | intro h' tk' k'); (have F' := Fr.stay (by assumption) k'); (have N' := News.stay (by assumption) k'); (try dsimp only); (try dsimp only at k'); (try k_sweep))))))

local macro_rules | `(tactic| walk_at "call ref") => `(tactic| (k_here; (with_reducible show wpAny _ _ (call (Value.ref 134) _) _ _ _); k_dflt (refine' add_ok ?X ?T ?C ?I ?J ?hb ?ho ?hs ?_; (case hb => first | exact bind_add4 (by k_in) | exact bindsAt_of (by k_is) (by first | exact BindsTo.of_eq rfl | exact binds_K (by k_in) rfl (by k_is) rfl rfl rfl)); (case X => k_in); (case T => exact Top.keeps (by assumption) (Fr.keep (by assumption))); (case C => exact Nice.less (by assumption) (by decide)); (case I => ktr_rel); (case J => ktr_rel); (case ho => kwd_rel); (case hs => first | exact Or.inl rfl | exact Or.inr rfl); intro r' h' tk' k' I' _; (have F' := Fr.stay (by assumption) k'); (have N' := News.stay (by assumption) k')); (try dsimp only); (try dsimp only at k'); (try k_sweep)))

local macro_rules | `(tactic| walk_at "call ref") => `(tactic| (k_here; (with_reducible show wpAny _ _ (call (Value.ref 142) _) _ _ _); k_dflt (refine' sub_ok ?X ?T ?C ?I ?J ?ho ?_; (case I => ktr_rel); (case J => ktr_rel); (case ho => kwd_rel); (case X => k_in); (case T => exact Top.keeps (by assumption) (Fr.keep (by assumption))); (case C => exact Nice.less (by assumption) (by decide)); intro r' h' tk' k' I'; (have F' := Fr.stay (by assumption) k'); (have N' := News.stay (by assumption) k')); (try dsimp only); (try dsimp only at k'); (try k_sweep)))
local macro_rules | `(tactic| walk_at "call ref") => `(tactic| (k_here; (with_reducible show wpAny _ _ (call (Value.ref 158) _) _ _ _); k_dflt (refine' mul_ok ?X ?T ?C ?I ?J ?hb ?ox ?oy ?ho ?_; (case hb => exact bindsAt_of (by k_is) (by first | exact BindsTo.of_eq rfl | exact binds_K (by k_in) rfl (by k_is) rfl rfl rfl));(case I => ktr_rel); (case J => ktr_rel); (case ox => first | assumption | exact IntM.ok (by assumption)); (case oy => first | assumption | exact IntM.ok (by assumption)); (case ho => first | assumption | exact Or.inl (by assumption) | exact Or.inr (by assumption)); (case X => k_in); (case T => exact Top.keeps (by assumption) (Fr.keep (by assumption))); (case C => exact Nice.less (by assumption) (by decide)); intro r' h' tk' k' I'; (have F' := Fr.stay (by assumption) k'); (have N' := News.stay (by assumption) k')); (try dsimp only); (try dsimp only at k'); (try k_sweep)))

section
variable {w : World} {A : Around} {E : Value → Shared → Prop} {s : Shared} {Q : Value → Shared → Prop}
  {p : Program} {loose : List Str} {mean : ExcName → Option Value} {mg mb : Str → Option Value} {x y : M4} {r q : Addr}


theorem gr_of (ox : Ok x) (h2 : x.2.1 = 0) (h3 : x.2.2.1 ≠ 0) (n : x ≠ nan) : grM x := by
  rcases ox.sp h2 h3 with h | h | h
  · exact .inl h
  · exact .inr h
  · exact absurd h n
theorem quot_nan (e : x = nan ∨ y = nan) : quotM x y = nan := by
  unfold quotM
  rw [if_pos (by rcases e with e | e; exact .inl e; exact .inr (.inl e))]
theorem quot_two (ox : Ok x) (oy : Ok y) (h2 : x.2.1 = 0) (h3 : x.2.2.1 ≠ 0) (g2 : y.2.1 = 0) (g3 : y.2.2.1 ≠ 0) : quotM x y = nan := by
  by_cases nx : x = nan
  · exact quot_nan (.inl nx)
  by_cases ny : y = nan
  · exact quot_nan (.inr ny)
  unfold quotM
  rw [if_pos (.inr (.inr ⟨gr_of ox h2 h3 nx, gr_of oy g2 g3 ny⟩))]
theorem quot_low (oy : Ok y) (g2 : y.2.1 = 0) (g3 : y.2.2.1 ≠ 0) (nx : x ≠ nan) (ny : y ≠ nan) (hx : ¬ (x.2.1 = 0 ∧ x.2.2.1 ≠ 0)) : quotM x y = zero := by
  have gy := gr_of oy g2 g3 ny
  have gx : ¬ grM x := by rintro (e | e) <;> (subst e; exact hx (by decide))
  unfold quotM
  rw [if_neg (by rintro (e | e | e); exact nx e; exact ny e; exact gx e.1), if_pos gy]
theorem quot_sign {i j : Int} (ox : Ok x) (oy : Ok y) (nx : x ≠ nan) (ny : y ≠ nan) (hy : ¬ (y.2.1 = 0 ∧ y.2.2.1 ≠ 0)) (hi : signM x = i) (hj : signM y = j) : quotM x y = if 0 < i * j then inf else ninf := by
  have gy : ¬ grM y := by rintro (e | e) <;> (subst e; exact hy (by decide))
  unfold quotM
  rw [lsign_eq ox nx, lsign_eq oy ny, hi, hj, if_neg (by rintro (e | e | e); exact nx e; exact ny e; exact gy e.2), if_neg gy]

theorem quot_zero (e : x = zero) (oy : Ok y) (hodd : x.2.1 = 0 ∧ x.2.2.1 ≠ 0 ∨ y.2.1 = 0 ∧ y.2.2.1 ≠ 0) (ny : y ≠ nan) : quotM x y = zero := by
  subst e
  rcases hodd with h | h
  · exact absurd rfl h.2
  · exact quot_low oy h.1 h.2 (by decide) ny (by decide)

theorem div_ok {pr : Int} {tp : Tok} {rv : Value} {vs : List Value} (X : (hd.heap_39 w.params).In s.heap) (T : Top p loose mean mg mb s.heap) (C : Nice 2 A) (I : IsM s.heap r x) (J : IsM s.heap q y)
   (hb : BindsAt (hd.heap_39 w.params) 174 s vs [(Str.ofString "s", .ref r), (Str.ofString "t", .ref q), (Str.ofString "prec", .int pr tp), (Str.ofString "rnd", rv)])
   (ox : Ok x) (oy : Ok y) (hodd : spM x ∨ spM y) (ny : y ≠ zero)
   (h : ∀ r' h' tk', s.heap.StaysIn h' → IsM h' r' (quotM x y) → Q (.ref r') ⟨h', s.gens, s.drawn, tk', s.os⟩) : wpAny (model P0 w) A (call (.ref 174) vs) Q E s := by
  have B : Binds [(Str.ofString "s", .ref r), (Str.ofString "t", .ref q), (Str.ofString "prec", .int pr tp), (Str.ofString "rnd", rv)] := trivial
  have fx := ox.facts
  have fy := oy.facts
  unfold spM at hodd
  obtain ⟨fx1, fx2, fx3, fx4, fx5⟩ := fx
  obtain ⟨fy1, fy2, fy3, fy4, fy5⟩ := fy
  kwd_inv
  kwd_less
  all_goals refine h _ _ _ (Fr.keep (by assumption)) (IsM.cast (by ktr_rel) ?_)
  all_goals first
    | exact (quot_nan (Or.inl (by assumption))).symm
    | exact (quot_nan (Or.inr (by assumption))).symm
    | exact (quot_zero (by assumption) oy hodd (by assumption)).symm
    | exact (quot_two ox oy (by assumption) (by assumption) (by assumption) (by assumption)).symm
    | exact (quot_low oy (by omega) (by omega) (by assumption) (by assumption) (by omega)).symm
    | (rw [quot_sign ox oy (by assumption) (by assumption) (by omega) (by assumption) (by assumption)]; decide)
   
end

end
section
local macro_rules | `(tactic| k_mem) => `(tactic| with_reducible assumption)
-- a tuple's fact
local macro_rules | `(tactic| ktr_rel) => `(tactic| first
  | with_reducible assumption
  | exact IsM.of_tup (Fr.tup (by k_asm) (by with_reducible assumption))
  | exact IsM.stay (Fr.keep (by k_asm)) (by with_reducible assumption)
  | exact IsM.of_news (by k_asm) (by k_mem)
  | exact IsM.of_newsO (by k_asm) (by k_mem) (by with_reducible assumption)
  | exact inf_at (by k_in)
  | exact ninf_at (by k_in)
  | exact nan_at (by k_in)
  | exact zero_at (by k_in)
  | exact one_at (by k_in)
  | exact IsM.stay (by with_reducible assumption) (by with_reducible assumption))
-- room
local macro_rules | `(tactic| ktr_room) => `(tactic| first | exact Nice.room (by assumption) | exact Nice.room1 (by assumption))
-- an absurd way
local macro_rules | `(tactic| ktr_unf) => `(tactic| first | exact absurd rfl (by assumption) | skip)
-- entering a def
local macro_rules | `(tactic| kwd_inv) => `(tactic| (
  refine' enter ?B ?X ?T ?C ?ho ?hcd ?hbind ?hloc ?_ ?c2 ?c3 ?c4 ?c5
  (case B => assumption)
  (case X => assumption)
  (case T => exact topRead_of (by assumption))
  (case C => assumption)
  (case ho => k_is)
  (case hcd => k_is)
  (case hbind => first | exact BindsAt.at (by assumption) (by k_is) | exact BindsTo.of_eq rfl | exact binds_K (by assumption) rfl (by k_is) rfl rfl rfl)
  (case hloc => exact locs rfl)
  (case c2 => exact rfl)
  (case c3 => exact rfl)
  (case c4 => exact rfl)
  (case c5 => decide)
  intro L' h' tk' F' N' C'
  (try dsimp only [List.reverse_cons, List.reverse_nil, List.nil_append, List.cons_append])
  (try dsimp only [List.reverse_cons, List.reverse_nil, List.nil_append, List.cons_append] at F')
  (try k_fold)))
-- a store
local macro_rules | `(tactic| walk_at "storeName") => `(tactic| (k_here; k_dflt (refine' storeT ?F ?N ?_ ?a ?b; (case F => k_asm); (case N => k_asm); (case a => rfl); (case b => rfl); k_whole; intro h' tk' F' N'); (try dsimp only); (try k_sweep)))
-- a new tuple of four ints
local macro_rules | `(tactic| walk_at "newTuple") => `(tactic| (k_here; k_dflt (refine' newTup4 ?F ?N ?_; (case F => k_asm); (case N => k_asm); intro D' h' ta' tb' tc' td' F' N' k'); (try dsimp only); (try dsimp only at k'); (try k_sweep)))
-- comparisons
local macro_rules | `(tactic| walk_at "compareOp Eq ref ref") => `(tactic| (k_here; k_dflt (refine' eqM ?I ?J ?u ?_ ?_; (case I => ktr_rel); (case J => ktr_rel); (case u => ktr_room)); (all_goals (intro e'; try tb_start))))
local macro_rules | `(tactic| walk_at "compareOp NotEq ref ref") => `(tactic| (k_here; k_dflt (refine' neM ?I ?J ?u ?_ ?_; (case I => ktr_rel); (case J => ktr_rel); (case u => ktr_room)); (all_goals (intro e'; try tb_start))))
local macro_rules | `(tactic| tb_start) => `(tactic| first | exact absurd rfl (by assumption) | (exfalso; omega) | (exfalso; law_clear; simp_all; done))
-- unpacking
local macro_rules | `(tactic| walk_at "assign Tuple") => `(tactic| (k_here; (with_reducible show wpAny _ _ (assign (Expr.Tuple _ _ _) _ (Value.ref _)) _ _ _); k_dflt (refine' unpackM ?F ?N ?I ?C ?n ?s ?_; (case F => k_asm); (case N => k_asm); (case I => ktr_rel); (case C => assumption); (case n => exact rfl); (case s => exact rfl); intro h' ta' tb' tc' td' F' N'); (try dsimp only); (try k_sweep)))
-- the walk
local macro_rules | `(tactic| kwd_less) => `(tactic| (w_top on; (repeat' (first | (k_unmd; k_unfold; (try dsimp only)) | walk1 | (dsimp only; first | (k_unmd; k_unfold; (try dsimp only)) | walk1) | fail "no step")); (all_goals (try dsimp only))))
local macro_rules | `(tactic| walk_at "assign Tuple") => `(tactic| (k_here; (with_reducible show wpAny _ _ (assign (Expr.Tuple [_, _] _ _) _ (Value.ref _)) _ _ _); k_dflt (refine' unpackN_ ?F ?N ?I ?C ?n ?s ?_; (case F => k_asm); (case N => k_asm); (case I => exact News.isTup (by k_asm) (by k_mem)); (case C => exact Nice.hh (by assumption)); (case n => exact rfl); (case s => exact rfl); intro h' F' N'); (try dsimp only); (try k_sweep)))
local macro_rules | `(tactic| walk_at "unpackItems ref") => `(tactic| (k_here; k_dflt (refine' unpackItemsN_ ?F ?N ?I ?C ?n ?_; (case F => k_asm); (case N => k_asm); (case I => exact News.isTup (by k_asm) (by k_mem)); (case C => exact Nice.hh (by assumption)); (case n => exact rfl); intro h' F' N'); (try dsimp only); (try k_sweep)))
-- an item of a tuple of four
local macro_rules | `(tactic| walk_at "subscriptTail") => `(tactic| (k_here; (with_reducible show wpAny _ _ (subscriptTail _ _ (Value.ref _) (Value.int 0 _)) _ _ _); k_dflt (refine' item4_0 ?I ?_ ?hs; (case I => ktr_rel); (case hs => with_unfolding_all rfl)); k_whole; intro t'; (try dsimp only)))
local macro_rules | `(tactic| walk_at "subscriptTail") => `(tactic| (k_here; (with_reducible show wpAny _ _ (subscriptTail _ _ (Value.ref _) (Value.int 1 _)) _ _ _); k_dflt (refine' item4_1 ?I ?_ ?hs; (case I => ktr_rel); (case hs => with_unfolding_all rfl)); k_whole; intro t'; (try dsimp only)))
local macro_rules | `(tactic| walk_at "subscriptTail") => `(tactic| (k_here; (with_reducible show wpAny _ _ (subscriptTail _ _ (Value.ref _) (Value.int 2 _)) _ _ _); k_dflt (refine' item4_2 ?I ?_ ?hs; (case I => ktr_rel); (case hs => with_unfolding_all rfl)); k_whole; intro t'; (try dsimp only)))
local macro_rules | `(tactic| walk_at "subscriptTail") => `(tactic| (k_here; (with_reducible show wpAny _ _ (subscriptTail _ _ (Value.ref _) (Value.int 3 _)) _ _ _); k_dflt (refine' item4_3 ?I ?_ ?hs; (case I => ktr_rel); (case hs => with_unfolding_all rfl)); k_whole; intro t'; (try dsimp only)))
-- membership
local macro_rules | `(tactic| ktd_rel) => `(tactic| first | exact AreM.nil | (refine' AreM.cons ?a ?b; (case a => ktr_rel); (case b => ktd_rel)))
local macro_rules | `(tactic| walk_at "compareOp In ref ref") => `(tactic| (k_here; k_dflt (first
  | (refine' inListM ?l ?G ?J ?u ?_ ?_; (case l => exact News.isList (by k_asm) (by k_mem)); (case G => ktd_rel); (case J => ktr_rel); (case u => ktr_room))
  | (refine' inTupM ?l ?G ?J ?u ?_ ?_; (case l => exact News.isTup (by k_asm) (by k_mem)); (case G => ktd_rel); (case J => ktr_rel); (case u => ktr_room))); (all_goals (intro e'; (try simp only [List.mem_cons, List.not_mem_nil, or_false] at e'); try tb_start))))
-- a branch that the facts decide
local macro_rules | `(tactic| kwd_rel) => `(tactic| first | with_reducible assumption | (simp only [decide_eq_true_eq, decide_eq_false_iff_not, Bool.not_eq_true, Bool.not_eq_false, bne_iff_ne, beq_iff_eq, bne_eq_false_iff_eq, beq_eq_false_iff_ne, Bool.and_eq_true, Bool.or_eq_true, Bool.not_eq_true', Bool.not_eq_false', ne_eq]; omega) | omega)
local macro_rules | `(tactic| walk_at "ite") => `(tactic| (k_here; k_openite; k_dflt (first | (refine' ite_pos ?c ?_; (case c => kwd_rel)) | (refine' ite_neg ?c ?_; (case c => kwd_rel))); walk_say "CUT"))
-- a dict display by ints
local macro_rules | `(tactic| walk_at "eval Dict") => `(tactic| (k_here; k_dflt (refine' kdn_eval (knd := PySem.intKind _ _) ?F ?N ?b ?a ?l ?e ?n ?_; (case F => k_asm); (case N => k_asm); (case b => exact Top.nolimit (by k_asm)); (case a => rfl); (case l => rfl); (case e => exact List.cons_ne_nil _ _); (case n => exact Nat.le_of_ble_eq_true rfl)); intro d' h' o' F' N' l1 lo' hd'; (try k_lt l1)))
-- a written condition, ahead of all
local macro_rules | `(tactic| walk_at "ite") => `(tactic| (k_closed; k_dflt (first | refine ite_pos (by decide) ?_ | refine ite_neg (by decide) ?_)))
local macro_rules | `(tactic| walk_at "ite") => `(tactic| (k_here; first | with_reducible refine ite_tt ?_ | with_reducible refine ite_ff ?_))
-- a name of the frame's or of the top's, ahead of the kit's other lines
local macro_rules | `(tactic| walk_at "eval Name") => `(tactic| (k_here; (fail_if_success (with_reducible show wpAny _ _ (eval _ (compEnvC _ _ _ _)) _ _ _)); k_dflt (first | (refine' nameX_L ?F ?v ?_ ?a ?b; (case F => k_asm); (case a => rfl); (case b => rfl); (case v => rfl); k_whole) | (refine' nameX_K ?F ?X ?T ?e ?_ ?a ?b; (case F => k_asm); (case X => k_asm); (case T => k_asm); (case a => rfl); (case b => rfl); (case e => k_is); k_whole))))

local macro_rules | `(tactic| walk_at "call ref") => `(tactic| (k_here; (with_reducible show wpAny _ _ (call (Value.ref 111) _) _ _ _); k_dflt (refine' neg_ok ?X ?T ?C ?I ?_; (case X => k_in); (case T => exact Top.keeps (by assumption) (Fr.keep (by assumption))); (case C => exact Nice.less (by assumption) (by decide)); (case I => ktr_rel); intro r' h' tk' k' I'; (have F' := Fr.stay (by assumption) k'); (have N' := News.stay (by assumption) k'); (have P' := IsM.place F' N' I'); clear I'; (rcases P' with I0' | ⟨o', N2', hO'⟩)); (all_goals ((try dsimp only); (try dsimp only at k'); (try k_sweep)))))
local macro_rules | `(tactic| walk_at "call ref") => `(tactic| (k_here; (with_reducible show wpAny _ _ (call (Value.ref 126) _) _ _ _); k_dflt (refine' sign_ok3 ?X ?T ?C ?I ?S ?_ ?_ ?_; (case X => k_in); (case T => exact Top.keeps (by assumption) (Fr.keep (by assumption))); (case C => exact Nice.less (by assumption) (by decide)); (case I => ktr_rel); (case S => exact (Ok.facts (by assumption)).1)); (all_goals (intro e'; first | (exfalso; (rcases sign_zero (by assumption) e' with z | z) <;> (subst z; law_clear; simp_all; done)) | (intro h' tk' t' k'; (have F' := Fr.stay (by assumption) k'); (have N' := News.stay (by assumption) k'); (try dsimp only); (try dsimp only at k'); (try k_sweep))))))
local macro_rules | `(tactic| walk_at "call ref") => `(tactic| (k_here; (with_reducible show wpAny _ _ (call (Value.ref 227) _) _ _ _); k_dflt (refine' lsign_ok ?X ?T ?C ?I ?_; (case X => k_in); (case T => exact Top.keeps (by assumption) (Fr.keep (by assumption))); (case C => exact Nice.less (by assumption) (by decide)); (case I => ktr_rel); intro h' tk' t' k' lo' hi'; (have F' := Fr.stay (by assumption) k'); (have N' := News.stay (by assumption) k')); (try dsimp only); (try dsimp only at k'); (try k_sweep)))
local macro_rules | `(tactic| walk_at "call ref") => `(tactic| (k_here; (with_reducible show wpAny _ _ (call (Value.ref 220) _) _ _ _); k_dflt (refine' others_ok ?X ?T ?C ?_; (case X => k_in); (case T => exact Top.keeps (by assumption) (Fr.keep (by assumption))); (case C => exact Nice.less (by assumption) (by decide)); intro l' r1' r2' r3' h' tk' a1' a2' a3' a4' b1' b2' b3' b4' c1' c2' c3' c4' k' M'; (have F' := Fr.stay (by assumption) k'); (have N' := News.made (by assumption) (by assumption) k' M'); clear M'); (try dsimp only); (try dsimp only [List.cons_append, List.nil_append] at N'); (try dsimp only at k'); (try k_sweep)))

local macro_rules | `(tactic| walk_at "call ref") => `(tactic| (k_here; (with_reducible show wpAny _ _ (call (Value.ref 241) _) _ _ _); k_dflt (refine' infinite_ok ?X ?T ?C  ?_; (case X => k_in); (case T => exact Top.keeps (by assumption) (Fr.keep (by assumption))); (case C => exact Nice.less (by assumption) (by decide));  intro r' h' tk' a' b' c' d' k' M'; (have F' := Fr.stay (by assumption) k'); (have N' := News.made (by assumption) (by assumption) k' M'); clear M'); (try dsimp only); (try dsimp only [List.cons_append, List.nil_append] at N'); (try dsimp only at k'); (try k_sweep)))
local macro_rules | `(tactic| walk_at "call ref") => `(tactic| (k_here; (with_reducible show wpAny _ _ (call (Value.ref 234) _) _ _ _); k_dflt (refine' great_ok ?X ?T ?C ?I ?_ ?_; (case X => k_in); (case T => exact Top.keeps (by assumption) (Fr.keep (by assumption))); (case C => exact Nice.less (by assumption) (by decide)); (case I => ktr_rel)); (all_goals (intro e'; first | (tb_start; done) | (intro h' tk' k'; (have F' := Fr.stay (by assumption) k'); (have N' := News.stay (by assumption) k'); (try dsimp only); (try dsimp only at k'); (try k_sweep))))))

local macro_rules | `(tactic| walk_at "call ref") => `(tactic| (k_here; (with_reducible show wpAny _ _ (call (Value.ref 248) _) _ _ _); k_dflt (refine' sum_ok ?X ?T ?C ?I ?J ?_; (case X => k_in); (case T => exact Top.keeps (by assumption) (Fr.keep (by assumption))); (case C => exact Nice.less (by assumption) (by decide)); (case I => ktr_rel); (case J => ktr_rel); intro r' h' tk' k' I'; (have F' := Fr.stay (by assumption) k'); (have N' := News.stay (by assumption) k')); (try dsimp only); (try dsimp only at k'); (try k_sweep)))
local macro_rules | `(tactic| walk_at "call ref") => `(tactic| (k_here; (with_reducible show wpAny _ _ (call (Value.ref 255) _) _ _ _); k_dflt (refine' prod_ok ?X ?T ?C ?I ?J ?_; (case X => k_in); (case T => exact Top.keeps (by assumption) (Fr.keep (by assumption))); (case C => exact Nice.less (by assumption) (by decide)); (case I => ktr_rel); (case J => ktr_rel); intro r' h' tk' k' I'; (have F' := Fr.stay (by assumption) k'); (have N' := News.stay (by assumption) k')); (try dsimp only); (try dsimp only at k'); (try k_sweep)))
local macro_rules | `(tactic| walk_at "call ref") => `(tactic| (k_here; (with_reducible show wpAny _ _ (call (Value.ref 269) _) _ _ _); k_dflt (refine' pow_ok ?X ?T ?C ?I ?_; (case X => k_in); (case T => exact Top.keeps (by assumption) (Fr.keep (by assumption))); (case C => exact Nice.less (by assumption) (by decide)); (case I => ktr_rel); intro r' h' tk' k' I'; (have F' := Fr.stay (by assumption) k'); (have N' := News.stay (by assumption) k')); (try dsimp only); (try dsimp only at k'); (try k_sweep)))
local macro_rules | `(tactic| walk_at "call ref") => `(tactic| (k_here; (with_reducible show wpAny _ _ (call (Value.ref 262) _) _ _ _); k_dflt (refine' quot_ok ?X ?T ?C ?I ?J ?_ ?_; (case X => k_in); (case T => exact Top.keeps (by assumption) (Fr.keep (by assumption))); (case C => exact Nice.less (by assumption) (by decide)); (case I => ktr_rel); (case J => ktr_rel)); (all_goals (intro e'; first | (tb_start; done) | ((first | intro r' h' tk' k' I' | intro h' tk' k'); (have F' := Fr.stay (by assumption) k'); (have N' := News.stay (by assumption) k'); (try dsimp only); (try dsimp only at k'); (try k_sweep))))))

section
variable {w : World} {A : Around} {E : Value → Shared → Prop} {s : Shared} {Q : Value → Shared → Prop}
  {p : Program} {loose : List Str} {mean : ExcName → Option Value} {mg mb : Str → Option Value} {x y : M4} {r q : Addr}


theorem trail_ok {n : Int} {tn : Tok} (X : (hd.heap_39 w.params).In s.heap) (T : Top p loose mean mg mb s.heap) (C : Nice 1 A) (hn : n = 4 ∨ n = 8)
   (h1 : n = 4 → ∀ h' tk' t, s.heap.StaysIn h' → Q (.int 2 t) ⟨h', s.gens, s.drawn, tk', s.os⟩)
   (h2 : n = 8 → ∀ h' tk' t, s.heap.StaysIn h' → Q (.int 3 t) ⟨h', s.gens, s.drawn, tk', s.os⟩) : wpAny (model P0 w) A (call (.ref 21) [.int n tn]) Q E s := by
  have B : Binds [(Str.ofString "n", .int n tn)] := trivial
  kwd_inv
  kwd_less
  rcases hn with e | e
  · refine retI (h1 e) (Fr.keep (by assumption)) ?_
    subst e; decide
  · refine retI (h2 e) (Fr.keep (by assumption)) ?_
    subst e; decide
theorem trail_of {m : Int} (h1 : 0 < m) (h2 : m ≤ 9) (a : Builtin.bitAnd m 1 = 0) (b : Builtin.bitAnd m 2 = 0) : m = 4 ∨ m = 8 := by
  have : m = 1 ∨ m = 2 ∨ m = 3 ∨ m = 4 ∨ m = 5 ∨ m = 6 ∨ m = 7 ∨ m = 8 ∨ m = 9 := by omega
  rcases this with e | e | e | e | e | e | e | e | e <;> subst e <;> first | exact absurd a (by decide) | exact absurd b (by decide) | exact .inl rfl | exact .inr rfl

local macro_rules | `(tactic| walk_at "call ref") => `(tactic| (k_here; (with_reducible show wpAny _ _ (call (Value.ref 21) _) _ _ _); k_dflt (refine' trail_ok ?X ?T ?C ?hn ?_ ?_; (case X => k_in); (case T => exact Top.keeps (by assumption) (Fr.keep (by assumption))); (case C => exact Nice.less (by assumption) (by decide)); (case hn => exact trail_of (by omega) (by omega) (by assumption) (by assumption))); (all_goals (intro e' h' tk' t' k'; (have F' := Fr.stay (by assumption) k'); (have N' := News.stay (by assumption) k'); (try dsimp only); (try dsimp only at k'); (try k_sweep)))))

/-- what a small int becomes -/
def IntM (n : Int) (y : M4) : Prop := (n = 0 ∧ y = zero) ∨ (n ≠ 0 ∧ (y.1 = if n < 0 then 1 else 0) ∧ 0 < y.2.1 ∧ y.2.1 ≤ 9 ∧ 0 ≤ y.2.2.1 ∧ y.2.2.1 ≤ 3)
theorem IntM.ok {n : Int} (h : IntM n y) : Ok y := by
  rcases h with ⟨_, h⟩ | ⟨_, h1, h2, h3, h4, h5⟩
  · exact .inr (.inr (.inr (.inl h)))
  · refine .inr (.inr (.inr (.inr ⟨?_, h2, by omega, by omega, by omega⟩)))
    rw [h1]
    split
    · exact .inr rfl
    · exact .inl rfl
theorem small {n : Int} (h1 : -9 ≤ n) (h2 : n ≤ 9) : n = -9 ∨ n = -8 ∨ n = -7 ∨ n = -6 ∨ n = -5 ∨ n = -4 ∨ n = -3 ∨ n = -2 ∨ n = -1 ∨ n = 0 ∨ n = 1 ∨ n = 2 ∨ n = 3 ∨ n = 4 ∨ n = 5 ∨ n = 6 ∨ n = 7 ∨ n = 8 ∨ n = 9 := by omega

theorem fme_ok {n : Int} {tn : Tok} {vs : List Value} {te tp : Tok} {rv : Value} (X : (hd.heap_39 w.params).In s.heap) (T : Top p loose mean mg mb s.heap) (C : Nice 2 A)
   (hb : BindsAt (hd.heap_39 w.params) 87 s vs [(Str.ofString "man", .int n tn), (Str.ofString "exp", .int 0 te), (Str.ofString "prec", .int 0 tp), (Str.ofString "rnd", rv)])
   (h1 : -9 ≤ n) (h2 : n ≤ 9)
   (h : ∀ r' h' tk' y, s.heap.StaysIn h' → IsM h' r' y → IntM n y → Q (.ref r') ⟨h', s.gens, s.drawn, tk', s.os⟩) : wpAny (model P0 w) A (call (.ref 87) vs) Q E s := by
  have B : Binds [(Str.ofString "man", .int n tn), (Str.ofString "exp", .int 0 te), (Str.ofString "prec", .int 0 tp), (Str.ofString "rnd", rv)] := trivial
  kwd_inv
  kwd_less
  all_goals refine h _ _ _ _ (Fr.keep (by assumption)) (by ktr_rel) ?_
  all_goals law_clear
  all_goals (unfold IntM; (rcases small h1 h2 with e | e | e | e | e | e | e | e | e | e | e | e | e | e | e | e | e | e | e) <;> subst e <;> first | decide | (exfalso; omega) | ((rename Builtin.bitAnd _ 1 = 0 => hz); exact absurd hz (by decide)))

local macro_rules | `(tactic| walk_at "call ref") => `(tactic| (k_here; (with_reducible show wpAny _ _ (call (Value.ref 87) _) _ _ _); k_dflt (refine' fme_ok ?X ?T ?C ?hb ?h1 ?h2 ?_; (case hb => exact bindsAt_of (by k_is) (by first | exact BindsTo.of_eq rfl | exact binds_K (by k_in) rfl (by k_is) rfl rfl rfl)); (case X => k_in); (case T => exact Top.keeps (by assumption) (Fr.keep (by assumption))); (case C => exact Nice.less (by assumption) (by decide)); (case h1 => assumption); (case h2 => assumption); intro r' h' tk' y' k' I' J'; (have F' := Fr.stay (by assumption) k'); (have N' := News.stay (by assumption) k')); (try dsimp only); (try dsimp only at k'); (try k_sweep)))

theorem fi_ok {n : Int} {tn : Tok} (X : (hd.heap_39 w.params).In s.heap) (T : Top p loose mean mg mb s.heap) (C : Nice 3 A) (h1 : -9 ≤ n) (h2 : n ≤ 9)
   (h : ∀ r' h' tk' y, s.heap.StaysIn h' → IsM h' r' y → IntM n y → Q (.ref r') ⟨h', s.gens, s.drawn, tk', s.os⟩) : wpAny (model P0 w) A (call (.ref 95) [.int n tn]) Q E s := by
  have B : Binds [(Str.ofString "n", .int n tn), (Str.ofString "prec", .int 0 334), (Str.ofString "rnd", .str (Str.ofString "d") 252)] := trivial
  kwd_inv
  kwd_less
  exact h _ _ _ _ (Fr.keep (by assumption)) (by assumption) (by assumption)

theorem sp_ne_zero {x : M4} (h : spM x) : x ≠ zero := fun e => by subst e; exact h.2 rfl
/-- the law's own whole number -/
def wholeM (n : Int) : M4 := if n = 0 then zero else (if n < 0 then 1 else 0, 1, 0, 1)
theorem whole_ok (n : Int) : Ok (wholeM n) := by
  unfold wholeM
  split
  · exact .inr (.inr (.inr (.inl rfl)))
  · refine .inr (.inr (.inr (.inr ⟨?_, (by decide : (0 : Int) < 1), (by decide : (1 : Int) < 2097152), (by decide : (-9 : Int) ≤ 0), (by decide : (0 : Int) ≤ 9)⟩)))
    split
    · exact .inr rfl
    · exact .inl rfl
theorem IntM.lsign {n : Int} (h : IntM n y) : lsignM y = lsignM (wholeM n) := by
  rcases h with ⟨h, e⟩ | ⟨h, h1, h2, h3⟩
  · subst e; unfold wholeM; rw [if_pos h]
  · unfold wholeM lsignM
    rw [if_neg h, h1]
    have : y ≠ zero := fun e => by rw [e] at h2; exact absurd h2 (by decide)
    rw [if_neg this]
    have : (if n < 0 then (1 : Int) else 0, (1 : Int), (0 : Int), (1 : Int)) ≠ zero := fun e => by
      have e2 : (1 : Int) = 0 := congrArg (fun z : M4 => z.2.1) e
      exact absurd e2 (by decide)
    rw [if_neg this]
theorem fin_ne {z : M4} (h : 0 < z.2.1) : z ≠ nan ∧ z ≠ inf ∧ z ≠ ninf := by
  refine ⟨fun e => ?_, fun e => ?_, fun e => ?_⟩ <;> (rw [e] at h; exact absurd h (by decide))
theorem IntM.ne {n : Int} (h : IntM n y) : y ≠ nan ∧ y ≠ inf ∧ y ≠ ninf := by
  rcases h with ⟨h, e⟩ | ⟨h, h1, h2, h3⟩
  · subst e; decide
  · exact fin_ne h2
theorem whole_ne (n : Int) : wholeM n ≠ nan ∧ wholeM n ≠ inf ∧ wholeM n ≠ ninf := by
  unfold wholeM
  split
  · decide
  · exact fin_ne (by decide : (0 : Int) < 1)
theorem prod_whole {n : Int} (h : IntM n y) : prodM x y = prodM x (wholeM n) := by
  have a := h.ne.1
  have b := (whole_ne n).1
  unfold prodM
  rw [h.lsign]
  simp only [a, b, false_or]
theorem quot_whole {n : Int} (h : IntM n y) : quotM y x = quotM (wholeM n) x := by
  have a := h.ne
  have b := whole_ne n
  unfold quotM
  rw [h.lsign]
  simp only [a.1, a.2.1, a.2.2, b.1, b.2.1, b.2.2, grM, false_or, false_and]
end

end
section
local macro_rules | `(tactic| k_mem) => `(tactic| with_reducible assumption)
-- a tuple's fact
local macro_rules | `(tactic| ktr_rel) => `(tactic| first
  | with_reducible assumption
  | exact IsM.of_tup (Fr.tup (by k_asm) (by with_reducible assumption))
  | exact IsM.stay (Fr.keep (by k_asm)) (by with_reducible assumption)
  | exact IsM.of_news (by k_asm) (by k_mem)
  | exact IsM.of_newsO (by k_asm) (by k_mem) (by with_reducible assumption)
  | exact inf_at (by k_in)
  | exact ninf_at (by k_in)
  | exact nan_at (by k_in)
  | exact zero_at (by k_in)
  | exact one_at (by k_in)
  | exact IsM.stay (by with_reducible assumption) (by with_reducible assumption))
-- room
local macro_rules | `(tactic| ktr_room) => `(tactic| first | exact Nice.room (by assumption) | exact Nice.room1 (by assumption))
-- an absurd way
local macro_rules | `(tactic| ktr_unf) => `(tactic| first | exact absurd rfl (by assumption) | skip)
-- entering a def
local macro_rules | `(tactic| kwd_inv) => `(tactic| (
  refine' enter ?B ?X ?T ?C ?ho ?hcd ?hbind ?hloc ?_ ?c2 ?c3 ?c4 ?c5
  (case B => assumption)
  (case X => assumption)
  (case T => exact topRead_of (by assumption))
  (case C => assumption)
  (case ho => k_is)
  (case hcd => k_is)
  (case hbind => first | exact BindsAt.at (by assumption) (by k_is) | exact BindsTo.of_eq rfl | exact binds_K (by assumption) rfl (by k_is) rfl rfl rfl)
  (case hloc => exact locs rfl)
  (case c2 => exact rfl)
  (case c3 => exact rfl)
  (case c4 => exact rfl)
  (case c5 => decide)
  intro L' h' tk' F' N' C'
  (try dsimp only [List.reverse_cons, List.reverse_nil, List.nil_append, List.cons_append])
  (try dsimp only [List.reverse_cons, List.reverse_nil, List.nil_append, List.cons_append] at F')
  (try k_fold)))
-- a store
local macro_rules | `(tactic| walk_at "storeName") => `(tactic| (k_here; k_dflt (refine' storeT ?F ?N ?_ ?a ?b; (case F => k_asm); (case N => k_asm); (case a => rfl); (case b => rfl); k_whole; intro h' tk' F' N'); (try dsimp only); (try k_sweep)))
-- a new tuple of four ints
local macro_rules | `(tactic| walk_at "newTuple") => `(tactic| (k_here; k_dflt (refine' newTup4 ?F ?N ?_; (case F => k_asm); (case N => k_asm); intro D' h' ta' tb' tc' td' F' N' k'); (try dsimp only); (try dsimp only at k'); (try k_sweep)))
-- comparisons
local macro_rules | `(tactic| walk_at "compareOp Eq ref ref") => `(tactic| (k_here; k_dflt (refine' eqM ?I ?J ?u ?_ ?_; (case I => ktr_rel); (case J => ktr_rel); (case u => ktr_room)); (all_goals (intro e'; try tb_start))))
local macro_rules | `(tactic| walk_at "compareOp NotEq ref ref") => `(tactic| (k_here; k_dflt (refine' neM ?I ?J ?u ?_ ?_; (case I => ktr_rel); (case J => ktr_rel); (case u => ktr_room)); (all_goals (intro e'; try tb_start))))
local macro_rules | `(tactic| tb_start) => `(tactic| first | exact absurd rfl (by assumption) | (exfalso; omega) | (exfalso; law_clear; simp_all; done))
-- unpacking
local macro_rules | `(tactic| walk_at "assign Tuple") => `(tactic| (k_here; (with_reducible show wpAny _ _ (assign (Expr.Tuple _ _ _) _ (Value.ref _)) _ _ _); k_dflt (refine' unpackM ?F ?N ?I ?C ?n ?s ?_; (case F => k_asm); (case N => k_asm); (case I => ktr_rel); (case C => assumption); (case n => exact rfl); (case s => exact rfl); intro h' ta' tb' tc' td' F' N'); (try dsimp only); (try k_sweep)))
-- the walk
local macro_rules | `(tactic| kwd_less) => `(tactic| (w_top on; (repeat' (first | (k_unmd; k_unfold; (try dsimp only)) | walk1 | (dsimp only; first | (k_unmd; k_unfold; (try dsimp only)) | walk1) | fail "no step")); (all_goals (try dsimp only))))
local macro_rules | `(tactic| walk_at "assign Tuple") => `(tactic| (k_here; (with_reducible show wpAny _ _ (assign (Expr.Tuple [_, _] _ _) _ (Value.ref _)) _ _ _); k_dflt (refine' unpackN_ ?F ?N ?I ?C ?n ?s ?_; (case F => k_asm); (case N => k_asm); (case I => exact News.isTup (by k_asm) (by k_mem)); (case C => exact Nice.hh (by assumption)); (case n => exact rfl); (case s => exact rfl); intro h' F' N'); (try dsimp only); (try k_sweep)))
local macro_rules | `(tactic| walk_at "unpackItems ref") => `(tactic| (k_here; k_dflt (refine' unpackItemsN_ ?F ?N ?I ?C ?n ?_; (case F => k_asm); (case N => k_asm); (case I => exact News.isTup (by k_asm) (by k_mem)); (case C => exact Nice.hh (by assumption)); (case n => exact rfl); intro h' F' N'); (try dsimp only); (try k_sweep)))
-- an item of a tuple of four
local macro_rules | `(tactic| walk_at "subscriptTail") => `(tactic| (k_here; (with_reducible show wpAny _ _ (subscriptTail _ _ (Value.ref _) (Value.int 0 _)) _ _ _); k_dflt (refine' item4_0 ?I ?_ ?hs; (case I => ktr_rel); (case hs => with_unfolding_all rfl)); k_whole; intro t'; (try dsimp only)))
local macro_rules | `(tactic| walk_at "subscriptTail") => `(tactic| (k_here; (with_reducible show wpAny _ _ (subscriptTail _ _ (Value.ref _) (Value.int 1 _)) _ _ _); k_dflt (refine' item4_1 ?I ?_ ?hs; (case I => ktr_rel); (case hs => with_unfolding_all rfl)); k_whole; intro t'; (try dsimp only)))
local macro_rules | `(tactic| walk_at "subscriptTail") => `(tactic| (k_here; (with_reducible show wpAny _ _ (subscriptTail _ _ (Value.ref _) (Value.int 2 _)) _ _ _); k_dflt (refine' item4_2 ?I ?_ ?hs; (case I => ktr_rel); (case hs => with_unfolding_all rfl)); k_whole; intro t'; (try dsimp only)))
local macro_rules | `(tactic| walk_at "subscriptTail") => `(tactic| (k_here; (with_reducible show wpAny _ _ (subscriptTail _ _ (Value.ref _) (Value.int 3 _)) _ _ _); k_dflt (refine' item4_3 ?I ?_ ?hs; (case I => ktr_rel); (case hs => with_unfolding_all rfl)); k_whole; intro t'; (try dsimp only)))
-- membership
local macro_rules | `(tactic| ktd_rel) => `(tactic| first | exact AreM.nil | (refine' AreM.cons ?a ?b; (case a => ktr_rel); (case b => ktd_rel)))
local macro_rules | `(tactic| walk_at "compareOp In ref ref") => `(tactic| (k_here; k_dflt (first
  | (refine' inListM ?l ?G ?J ?u ?_ ?_; (case l => exact News.isList (by k_asm) (by k_mem)); (case G => ktd_rel); (case J => ktr_rel); (case u => ktr_room))
  | (refine' inTupM ?l ?G ?J ?u ?_ ?_; (case l => exact News.isTup (by k_asm) (by k_mem)); (case G => ktd_rel); (case J => ktr_rel); (case u => ktr_room))); (all_goals (intro e'; (try simp only [List.mem_cons, List.not_mem_nil, or_false] at e'); try tb_start))))
-- a branch that the facts decide
local macro_rules | `(tactic| kwd_rel) => `(tactic| first | with_reducible assumption | (simp only [decide_eq_true_eq, decide_eq_false_iff_not, Bool.not_eq_true, Bool.not_eq_false, bne_iff_ne, beq_iff_eq, bne_eq_false_iff_eq, beq_eq_false_iff_ne, Bool.and_eq_true, Bool.or_eq_true, Bool.not_eq_true', Bool.not_eq_false', ne_eq]; omega) | omega)
local macro_rules | `(tactic| walk_at "ite") => `(tactic| (k_here; k_openite; k_dflt (first | (refine' ite_pos ?c ?_; (case c => kwd_rel)) | (refine' ite_neg ?c ?_; (case c => kwd_rel))); walk_say "CUT"))
-- a dict display by ints
local macro_rules | `(tactic| walk_at "eval Dict") => `(tactic| (k_here; k_dflt (refine' kdn_eval (knd := PySem.intKind _ _) ?F ?N ?b ?a ?l ?e ?n ?_; (case F => k_asm); (case N => k_asm); (case b => exact Top.nolimit (by k_asm)); (case a => rfl); (case l => rfl); (case e => exact List.cons_ne_nil _ _); (case n => exact Nat.le_of_ble_eq_true rfl)); intro d' h' o' F' N' l1 lo' hd'; (try k_lt l1)))
-- a written condition, ahead of all
local macro_rules | `(tactic| walk_at "ite") => `(tactic| (k_closed; k_dflt (first | refine ite_pos (by decide) ?_ | refine ite_neg (by decide) ?_)))
local macro_rules | `(tactic| walk_at "ite") => `(tactic| (k_here; first | with_reducible refine ite_tt ?_ | with_reducible refine ite_ff ?_))
-- a name of the frame's or of the top's, ahead of the kit's other lines
local macro_rules | `(tactic| walk_at "eval Name") => `(tactic| (k_here; (fail_if_success (with_reducible show wpAny _ _ (eval _ (compEnvC _ _ _ _)) _ _ _)); k_dflt (first | (refine' nameX_L ?F ?v ?_ ?a ?b; (case F => k_asm); (case a => rfl); (case b => rfl); (case v => rfl); k_whole) | (refine' nameX_K ?F ?X ?T ?e ?_ ?a ?b; (case F => k_asm); (case X => k_asm); (case T => k_asm); (case a => rfl); (case b => rfl); (case e => k_is); k_whole))))

local macro_rules | `(tactic| walk_at "call ref") => `(tactic| (k_here; (with_reducible show wpAny _ _ (call (Value.ref 111) _) _ _ _); k_dflt (refine' neg_ok ?X ?T ?C ?I ?_; (case X => k_in); (case T => exact Top.keeps (by assumption) (Fr.keep (by assumption))); (case C => exact Nice.less (by assumption) (by decide)); (case I => ktr_rel); intro r' h' tk' k' I'; (have F' := Fr.stay (by assumption) k'); (have N' := News.stay (by assumption) k'); (have P' := IsM.place F' N' I'); clear I'; (rcases P' with I0' | ⟨o', N2', hO'⟩)); (all_goals ((try dsimp only); (try dsimp only at k'); (try k_sweep)))))
local macro_rules | `(tactic| walk_at "call ref") => `(tactic| (k_here; (with_reducible show wpAny _ _ (call (Value.ref 126) _) _ _ _); k_dflt (refine' sign_ok3 ?X ?T ?C ?I ?S ?_ ?_ ?_; (case X => k_in); (case T => exact Top.keeps (by assumption) (Fr.keep (by assumption))); (case C => exact Nice.less (by assumption) (by decide)); (case I => ktr_rel); (case S => exact (Ok.facts (by assumption)).1)); (all_goals (intro e'; first | (exfalso; (rcases sign_zero (by assumption) e' with z | z) <;> (subst z; law_clear; simp_all; done)) | (intro h' tk' t' k'; (have F' := Fr.stay (by assumption) k'); (have N' := News.stay (by assumption) k'); (try dsimp only); (try dsimp only at k'); (try k_sweep))))))
local macro_rules | `(tactic| walk_at "call ref") => `(tactic| (k_here; (with_reducible show wpAny _ _ (call (Value.ref 227) _) _ _ _); k_dflt (refine' lsign_ok ?X ?T ?C ?I ?_; (case X => k_in); (case T => exact Top.keeps (by assumption) (Fr.keep (by assumption))); (case C => exact Nice.less (by assumption) (by decide)); (case I => ktr_rel); intro h' tk' t' k' lo' hi'; (have F' := Fr.stay (by assumption) k'); (have N' := News.stay (by assumption) k')); (try dsimp only); (try dsimp only at k'); (try k_sweep)))
local macro_rules | `(tactic| walk_at "call ref") => `(tactic| (k_here; (with_reducible show wpAny _ _ (call (Value.ref 220) _) _ _ _); k_dflt (refine' others_ok ?X ?T ?C ?_; (case X => k_in); (case T => exact Top.keeps (by assumption) (Fr.keep (by assumption))); (case C => exact Nice.less (by assumption) (by decide)); intro l' r1' r2' r3' h' tk' a1' a2' a3' a4' b1' b2' b3' b4' c1' c2' c3' c4' k' M'; (have F' := Fr.stay (by assumption) k'); (have N' := News.made (by assumption) (by assumption) k' M'); clear M'); (try dsimp only); (try dsimp only [List.cons_append, List.nil_append] at N'); (try dsimp only at k'); (try k_sweep)))

local macro_rules | `(tactic| walk_at "call ref") => `(tactic| (k_here; (with_reducible show wpAny _ _ (call (Value.ref 241) _) _ _ _); k_dflt (refine' infinite_ok ?X ?T ?C  ?_; (case X => k_in); (case T => exact Top.keeps (by assumption) (Fr.keep (by assumption))); (case C => exact Nice.less (by assumption) (by decide));  intro r' h' tk' a' b' c' d' k' M'; (have F' := Fr.stay (by assumption) k'); (have N' := News.made (by assumption) (by assumption) k' M'); clear M'); (try dsimp only); (try dsimp only [List.cons_append, List.nil_append] at N'); (try dsimp only at k'); (try k_sweep)))
local macro_rules | `(tactic| walk_at "call ref") => `(tactic| (k_here; (with_reducible show wpAny _ _ (call (Value.ref 234) _) _ _ _); k_dflt (refine' great_ok ?X ?T ?C ?I ?_ ?_; (case X => k_in); (case T => exact Top.keeps (by assumption) (Fr.keep (by assumption))); (case C => exact Nice.less (by assumption) (by decide)); (case I => ktr_rel)); (all_goals (intro e'; first | (tb_start; done) | (intro h' tk' k'; (have F' := Fr.stay (by assumption) k'); (have N' := News.stay (by assumption) k'); (try dsimp only); (try dsimp only at k'); (try k_sweep))))))

local macro_rules | `(tactic| walk_at "call ref") => `(tactic| (k_here; (with_reducible show wpAny _ _ (call (Value.ref 248) _) _ _ _); k_dflt (refine' sum_ok ?X ?T ?C ?I ?J ?_; (case X => k_in); (case T => exact Top.keeps (by assumption) (Fr.keep (by assumption))); (case C => exact Nice.less (by assumption) (by decide)); (case I => ktr_rel); (case J => ktr_rel); intro r' h' tk' k' I'; (have F' := Fr.stay (by assumption) k'); (have N' := News.stay (by assumption) k')); (try dsimp only); (try dsimp only at k'); (try k_sweep)))
local macro_rules | `(tactic| walk_at "call ref") => `(tactic| (k_here; (with_reducible show wpAny _ _ (call (Value.ref 255) _) _ _ _); k_dflt (refine' prod_ok ?X ?T ?C ?I ?J ?_; (case X => k_in); (case T => exact Top.keeps (by assumption) (Fr.keep (by assumption))); (case C => exact Nice.less (by assumption) (by decide)); (case I => ktr_rel); (case J => ktr_rel); intro r' h' tk' k' I'; (have F' := Fr.stay (by assumption) k'); (have N' := News.stay (by assumption) k')); (try dsimp only); (try dsimp only at k'); (try k_sweep)))
local macro_rules | `(tactic| walk_at "call ref") => `(tactic| (k_here; (with_reducible show wpAny _ _ (call (Value.ref 269) _) _ _ _); k_dflt (refine' pow_ok ?X ?T ?C ?I ?_; (case X => k_in); (case T => exact Top.keeps (by assumption) (Fr.keep (by assumption))); (case C => exact Nice.less (by assumption) (by decide)); (case I => ktr_rel); intro r' h' tk' k' I'; (have F' := Fr.stay (by assumption) k'); (have N' := News.stay (by assumption) k')); (try dsimp only); (try dsimp only at k'); (try k_sweep)))
local macro_rules | `(tactic| walk_at "call ref") => `(tactic| (k_here; (with_reducible show wpAny _ _ (call (Value.ref 262) _) _ _ _); k_dflt (refine' quot_ok ?X ?T ?C ?I ?J ?_ ?_; (case X => k_in); (case T => exact Top.keeps (by assumption) (Fr.keep (by assumption))); (case C => exact Nice.less (by assumption) (by decide)); (case I => ktr_rel); (case J => ktr_rel)); (all_goals (intro e'; first | (tb_start; done) | ((first | intro r' h' tk' k' I' | intro h' tk' k'); (have F' := Fr.stay (by assumption) k'); (have N' := News.stay (by assumption) k'); (try dsimp only); (try dsimp only at k'); (try k_sweep))))))

local macro_rules | `(tactic| walk_at "call ref") => `(tactic| (k_here; (with_reducible show wpAny _ _ (call (Value.ref 134) _) _ _ _); k_dflt (refine' add_ok ?X ?T ?C ?I ?J ?hb ?ho ?hs ?_; (case hb => first | exact bind_add4 (by k_in) | exact bindsAt_of (by k_is) (by first | exact BindsTo.of_eq rfl | exact binds_K (by k_in) rfl (by k_is) rfl rfl rfl)); (case X => k_in); (case T => exact Top.keeps (by assumption) (Fr.keep (by assumption))); (case C => exact Nice.less (by assumption) (by decide)); (case I => ktr_rel); (case J => ktr_rel); (case ho => kwd_rel); (case hs => first | exact Or.inl rfl | exact Or.inr rfl); intro r' h' tk' k' I' _; (have F' := Fr.stay (by assumption) k'); (have N' := News.stay (by assumption) k')); (try dsimp only); (try dsimp only at k'); (try k_sweep)))

local macro_rules | `(tactic| walk_at "call ref") => `(tactic| (k_here; (with_reducible show wpAny _ _ (call (Value.ref 142) _) _ _ _); k_dflt (refine' sub_ok ?X ?T ?C ?I ?J ?ho ?_; (case I => ktr_rel); (case J => ktr_rel); (case ho => kwd_rel); (case X => k_in); (case T => exact Top.keeps (by assumption) (Fr.keep (by assumption))); (case C => exact Nice.less (by assumption) (by decide)); intro r' h' tk' k' I'; (have F' := Fr.stay (by assumption) k'); (have N' := News.stay (by assumption) k')); (try dsimp only); (try dsimp only at k'); (try k_sweep)))
local macro_rules | `(tactic| walk_at "call ref") => `(tactic| (k_here; (with_reducible show wpAny _ _ (call (Value.ref 158) _) _ _ _); k_dflt (refine' mul_ok ?X ?T ?C ?I ?J ?hb ?ox ?oy ?ho ?_; (case hb => exact bindsAt_of (by k_is) (by first | exact BindsTo.of_eq rfl | exact binds_K (by k_in) rfl (by k_is) rfl rfl rfl));(case I => ktr_rel); (case J => ktr_rel); (case ox => first | assumption | exact IntM.ok (by assumption)); (case oy => first | assumption | exact IntM.ok (by assumption)); (case ho => first | assumption | exact Or.inl (by assumption) | exact Or.inr (by assumption)); (case X => k_in); (case T => exact Top.keeps (by assumption) (Fr.keep (by assumption))); (case C => exact Nice.less (by assumption) (by decide)); intro r' h' tk' k' I'; (have F' := Fr.stay (by assumption) k'); (have N' := News.stay (by assumption) k')); (try dsimp only); (try dsimp only at k'); (try k_sweep)))

local macro_rules | `(tactic| walk_at "call ref") => `(tactic| (k_here; (with_reducible show wpAny _ _ (call (Value.ref 174) _) _ _ _); k_dflt (refine' div_ok ?X ?T ?C ?I ?J ?hb ?ox ?oy ?ho ?ny ?_; (case hb => exact bindsAt_of (by k_is) (by first | exact BindsTo.of_eq rfl | exact binds_K (by k_in) rfl (by k_is) rfl rfl rfl)); (case X => k_in); (case T => exact Top.keeps (by assumption) (Fr.keep (by assumption))); (case C => exact Nice.less (by assumption) (by decide)); (case I => ktr_rel); (case J => ktr_rel); (case ox => first | assumption | exact IntM.ok (by assumption)); (case oy => assumption); (case ho => first | assumption | exact Or.inr (by assumption)); (case ny => first | assumption | exact sp_ne_zero (by assumption)); intro r' h' tk' k' I'; (have F' := Fr.stay (by assumption) k'); (have N' := News.stay (by assumption) k')); (try dsimp only); (try dsimp only at k'); (try k_sweep)))

local macro_rules | `(tactic| walk_at "call ref") => `(tactic| (k_here; (with_reducible show wpAny _ _ (call (Value.ref 95) _) _ _ _); k_dflt (refine' fi_ok ?X ?T ?C ?h1 ?h2 ?_; (case X => k_in); (case T => exact Top.keeps (by assumption) (Fr.keep (by assumption))); (case C => exact Nice.less (by assumption) (by decide)); (case h1 => assumption); (case h2 => assumption); intro r' h' tk' y' k' I' J'; (have F' := Fr.stay (by assumption) k'); (have N' := News.stay (by assumption) k')); (try dsimp only); (try dsimp only at k'); (try k_sweep)))

section
variable {w : World} {A : Around} {E : Value → Shared → Prop} {s : Shared} {Q : Value → Shared → Prop}
  {p : Program} {loose : List Str} {mean : ExcName → Option Value} {mg mb : Str → Option Value} {x y : M4} {r q : Addr}


theorem mint_ok {n pr : Int} {tn tp : Tok} {rv : Value} (X : (hd.heap_39 w.params).In s.heap) (T : Top p loose mean mg mb s.heap) (C : Nice 4 A) (I : IsM s.heap r x) (ox : Ok x) (sx : spM x)
   (h1 : -9 ≤ n) (h2 : n ≤ 9)
   (h : ∀ r' h' tk', s.heap.StaysIn h' → IsM h' r' (prodM x (wholeM n)) → Q (.ref r') ⟨h', s.gens, s.drawn, tk', s.os⟩) : wpAny (model P0 w) A (call (.ref 166) [.ref r, .int n tn, .int pr tp, rv]) Q E s := by
  have B : Binds [(Str.ofString "s", .ref r), (Str.ofString "n", .int n tn), (Str.ofString "prec", .int pr tp), (Str.ofString "rnd", rv)] := trivial
  have sx1 := sx.1
  kwd_inv
  kwd_less
  all_goals refine h _ _ _ (Fr.keep (by assumption)) (IsM.cast (by assumption) ?_)
  exact prod_whole (by assumption)

theorem rint_ok {n pr : Int} {tn tp : Tok} {rv : Value} (X : (hd.heap_39 w.params).In s.heap) (T : Top p loose mean mg mb s.heap) (C : Nice 4 A) (I : IsM s.heap r x) (ox : Ok x) (sx : spM x)
   (h1 : -9 ≤ n) (h2 : n ≤ 9)
   (h : ∀ r' h' tk', s.heap.StaysIn h' → IsM h' r' (quotM (wholeM n) x) → Q (.ref r') ⟨h', s.gens, s.drawn, tk', s.os⟩) : wpAny (model P0 w) A (call (.ref 182) [.int n tn, .ref r, .int pr tp, rv]) Q E s := by
  have B : Binds [(Str.ofString "n", .int n tn), (Str.ofString "t", .ref r), (Str.ofString "prec", .int pr tp), (Str.ofString "rnd", rv)] := trivial
  have sx1 := sx.1
  kwd_inv
  kwd_less
  all_goals refine h _ _ _ (Fr.keep (by assumption)) (IsM.cast (by assumption) ?_)
  all_goals exact quot_whole (by assumption)

theorem parity {n : Int} (h1 : -9 ≤ n) (h2 : n ≤ 9) : (Builtin.bitAnd n 1 = 0 ∧ n.fmod 2 = 0) ∨ (Builtin.bitAnd n 1 = 1 ∧ n.fmod 2 ≠ 0) := by
  (rcases small h1 h2 with e | e | e | e | e | e | e | e | e | e | e | e | e | e | e | e | e | e | e) <;> subst e <;> decide
local macro_rules | `(tactic| walk_at "subscriptTail") => `(tactic| (k_here; (with_reducible show wpAny _ _ (subscriptTail _ _ (Value.ref _) (Value.int (Builtin.bitAnd _ 1) _)) _ _ _); (rcases parity (by assumption) (by assumption) with ⟨e', f'⟩ | ⟨e', f'⟩) <;> rw [e']))

theorem pint_ok {n pr : Int} {tn tp : Tok} {rv : Value} (X : (hd.heap_39 w.params).In s.heap) (T : Top p loose mean mg mb s.heap) (C : Nice 1 A) (I : IsM s.heap r x) (ox : Ok x) (sx : spM x)
   (h1 : -9 ≤ n) (h2 : n ≤ 9)
   (h : ∀ r' h' tk', s.heap.StaysIn h' → IsM h' r' (powM x n) → Q (.ref r') ⟨h', s.gens, s.drawn, tk', s.os⟩) : wpAny (model P0 w) A (call (.ref 191) [.ref r, .int n tn, .int pr tp, rv]) Q E s := by
  have B : Binds [(Str.ofString "s", .ref r), (Str.ofString "n", .int n tn), (Str.ofString "prec", .int pr tp), (Str.ofString "rnd", rv)] := trivial
  have sx1 := sx.1
  have sx2 := sx.2
  kwd_inv
  kwd_less
  all_goals refine h _ _ _ (Fr.keep (by assumption)) (IsM.cast (by ktr_rel) ?_)
  all_goals have hx := ox.sp sx1 sx2
  all_goals law_clear
  all_goals (unfold powM; (repeat' split) <;> first | rfl | (exfalso; omega) | simp_all [lsignM])

theorem sqrt_ok {pr : Int} {tp : Tok} {rv : Value} (X : (hd.heap_39 w.params).In s.heap) (T : Top p loose mean mg mb s.heap) (C : Nice 1 A) (I : IsM s.heap r x) (h1 : x.1 = 0) (h2 : x.2.1 = 0)
   (h : ∀ h' tk', s.heap.StaysIn h' → Q (.ref r) ⟨h', s.gens, s.drawn, tk', s.os⟩) : wpAny (model P0 w) A (call (.ref 199) [.ref r, .int pr tp, rv]) Q E s := by
  have B : Binds [(Str.ofString "s", .ref r), (Str.ofString "prec", .int pr tp), (Str.ofString "rnd", rv)] := trivial
  kwd_inv
  kwd_less
  exact h _ _ (Fr.keep (by assumption))
end

end
section
local macro_rules | `(tactic| k_mem) => `(tactic| with_reducible assumption)
-- a tuple's fact
local macro_rules | `(tactic| ktr_rel) => `(tactic| first
  | with_reducible assumption
  | exact IsM.of_tup (Fr.tup (by k_asm) (by with_reducible assumption))
  | exact IsM.stay (Fr.keep (by k_asm)) (by with_reducible assumption)
  | exact IsM.of_news (by k_asm) (by k_mem)
  | exact IsM.of_newsO (by k_asm) (by k_mem) (by with_reducible assumption)
  | exact inf_at (by k_in)
  | exact ninf_at (by k_in)
  | exact nan_at (by k_in)
  | exact zero_at (by k_in)
  | exact one_at (by k_in)
  | exact IsM.stay (by with_reducible assumption) (by with_reducible assumption))
-- room
local macro_rules | `(tactic| ktr_room) => `(tactic| first | exact Nice.room (by assumption) | exact Nice.room1 (by assumption))
-- an absurd way
local macro_rules | `(tactic| ktr_unf) => `(tactic| first | exact absurd rfl (by assumption) | skip)
-- entering a def
local macro_rules | `(tactic| kwd_inv) => `(tactic| (
  refine' enter ?B ?X ?T ?C ?ho ?hcd ?hbind ?hloc ?_ ?c2 ?c3 ?c4 ?c5
  (case B => assumption)
  (case X => assumption)
  (case T => exact topRead_of (by assumption))
  (case C => assumption)
  (case ho => k_is)
  (case hcd => k_is)
  (case hbind => first | exact BindsAt.at (by assumption) (by k_is) | exact BindsTo.of_eq rfl | exact binds_K (by assumption) rfl (by k_is) rfl rfl rfl)
  (case hloc => exact locs rfl)
  (case c2 => exact rfl)
  (case c3 => exact rfl)
  (case c4 => exact rfl)
  (case c5 => decide)
  intro L' h' tk' F' N' C'
  (try dsimp only [List.reverse_cons, List.reverse_nil, List.nil_append, List.cons_append])
  (try dsimp only [List.reverse_cons, List.reverse_nil, List.nil_append, List.cons_append] at F')
  (try k_fold)))
-- a store
local macro_rules | `(tactic| walk_at "storeName") => `(tactic| (k_here; k_dflt (refine' storeT ?F ?N ?_ ?a ?b; (case F => k_asm); (case N => k_asm); (case a => rfl); (case b => rfl); k_whole; intro h' tk' F' N'); (try dsimp only); (try k_sweep)))
-- a new tuple of four ints
local macro_rules | `(tactic| walk_at "newTuple") => `(tactic| (k_here; k_dflt (refine' newTup4 ?F ?N ?_; (case F => k_asm); (case N => k_asm); intro D' h' ta' tb' tc' td' F' N' k'); (try dsimp only); (try dsimp only at k'); (try k_sweep)))
-- comparisons
local macro_rules | `(tactic| walk_at "compareOp Eq ref ref") => `(tactic| (k_here; k_dflt (refine' eqM ?I ?J ?u ?_ ?_; (case I => ktr_rel); (case J => ktr_rel); (case u => ktr_room)); (all_goals (intro e'; try tb_start))))
local macro_rules | `(tactic| walk_at "compareOp NotEq ref ref") => `(tactic| (k_here; k_dflt (refine' neM ?I ?J ?u ?_ ?_; (case I => ktr_rel); (case J => ktr_rel); (case u => ktr_room)); (all_goals (intro e'; try tb_start))))
local macro_rules | `(tactic| tb_start) => `(tactic| first | exact absurd rfl (by assumption) | (exfalso; omega) | (exfalso; law_clear; simp_all; done))
-- unpacking
local macro_rules | `(tactic| walk_at "assign Tuple") => `(tactic| (k_here; (with_reducible show wpAny _ _ (assign (Expr.Tuple _ _ _) _ (Value.ref _)) _ _ _); k_dflt (refine' unpackM ?F ?N ?I ?C ?n ?s ?_; (case F => k_asm); (case N => k_asm); (case I => ktr_rel); (case C => assumption); (case n => exact rfl); (case s => exact rfl); intro h' ta' tb' tc' td' F' N'); (try dsimp only); (try k_sweep)))
-- the walk
local macro_rules | `(tactic| kwd_less) => `(tactic| (w_top on; (repeat' (first | (k_unmd; k_unfold; (try dsimp only)) | walk1 | (dsimp only; first | (k_unmd; k_unfold; (try dsimp only)) | walk1) | fail "no step")); (all_goals (try dsimp only))))
local macro_rules | `(tactic| walk_at "assign Tuple") => `(tactic| (k_here; (with_reducible show wpAny _ _ (assign (Expr.Tuple [_, _] _ _) _ (Value.ref _)) _ _ _); k_dflt (refine' unpackN_ ?F ?N ?I ?C ?n ?s ?_; (case F => k_asm); (case N => k_asm); (case I => exact News.isTup (by k_asm) (by k_mem)); (case C => exact Nice.hh (by assumption)); (case n => exact rfl); (case s => exact rfl); intro h' F' N'); (try dsimp only); (try k_sweep)))
local macro_rules | `(tactic| walk_at "unpackItems ref") => `(tactic| (k_here; k_dflt (refine' unpackItemsN_ ?F ?N ?I ?C ?n ?_; (case F => k_asm); (case N => k_asm); (case I => exact News.isTup (by k_asm) (by k_mem)); (case C => exact Nice.hh (by assumption)); (case n => exact rfl); intro h' F' N'); (try dsimp only); (try k_sweep)))
-- an item of a tuple of four
local macro_rules | `(tactic| walk_at "subscriptTail") => `(tactic| (k_here; (with_reducible show wpAny _ _ (subscriptTail _ _ (Value.ref _) (Value.int 0 _)) _ _ _); k_dflt (refine' item4_0 ?I ?_ ?hs; (case I => ktr_rel); (case hs => with_unfolding_all rfl)); k_whole; intro t'; (try dsimp only)))
local macro_rules | `(tactic| walk_at "subscriptTail") => `(tactic| (k_here; (with_reducible show wpAny _ _ (subscriptTail _ _ (Value.ref _) (Value.int 1 _)) _ _ _); k_dflt (refine' item4_1 ?I ?_ ?hs; (case I => ktr_rel); (case hs => with_unfolding_all rfl)); k_whole; intro t'; (try dsimp only)))
local macro_rules | `(tactic| walk_at "subscriptTail") => `(tactic| (k_here; (with_reducible show wpAny _ _ (subscriptTail _ _ (Value.ref _) (Value.int 2 _)) _ _ _); k_dflt (refine' item4_2 ?I ?_ ?hs; (case I => ktr_rel); (case hs => with_unfolding_all rfl)); k_whole; intro t'; (try dsimp only)))
local macro_rules | `(tactic| walk_at "subscriptTail") => `(tactic| (k_here; (with_reducible show wpAny _ _ (subscriptTail _ _ (Value.ref _) (Value.int 3 _)) _ _ _); k_dflt (refine' item4_3 ?I ?_ ?hs; (case I => ktr_rel); (case hs => with_unfolding_all rfl)); k_whole; intro t'; (try dsimp only)))
-- membership
local macro_rules | `(tactic| ktd_rel) => `(tactic| first | exact AreM.nil | (refine' AreM.cons ?a ?b; (case a => ktr_rel); (case b => ktd_rel)))
local macro_rules | `(tactic| walk_at "compareOp In ref ref") => `(tactic| (k_here; k_dflt (first
  | (refine' inListM ?l ?G ?J ?u ?_ ?_; (case l => exact News.isList (by k_asm) (by k_mem)); (case G => ktd_rel); (case J => ktr_rel); (case u => ktr_room))
  | (refine' inTupM ?l ?G ?J ?u ?_ ?_; (case l => exact News.isTup (by k_asm) (by k_mem)); (case G => ktd_rel); (case J => ktr_rel); (case u => ktr_room))); (all_goals (intro e'; (try simp only [List.mem_cons, List.not_mem_nil, or_false] at e'); try tb_start))))
-- a branch that the facts decide
local macro_rules | `(tactic| kwd_rel) => `(tactic| first | with_reducible assumption | (simp only [decide_eq_true_eq, decide_eq_false_iff_not, Bool.not_eq_true, Bool.not_eq_false, bne_iff_ne, beq_iff_eq, bne_eq_false_iff_eq, beq_eq_false_iff_ne, Bool.and_eq_true, Bool.or_eq_true, Bool.not_eq_true', Bool.not_eq_false', ne_eq]; omega) | omega)
local macro_rules | `(tactic| walk_at "ite") => `(tactic| (k_here; k_openite; k_dflt (first | (refine' ite_pos ?c ?_; (case c => kwd_rel)) | (refine' ite_neg ?c ?_; (case c => kwd_rel))); walk_say "CUT"))
-- a dict display by ints
local macro_rules | `(tactic| walk_at "eval Dict") => `(tactic| (k_here; k_dflt (refine' kdn_eval (knd := PySem.intKind _ _) ?F ?N ?b ?a ?l ?e ?n ?_; (case F => k_asm); (case N => k_asm); (case b => exact Top.nolimit (by k_asm)); (case a => rfl); (case l => rfl); (case e => exact List.cons_ne_nil _ _); (case n => exact Nat.le_of_ble_eq_true rfl)); intro d' h' o' F' N' l1 lo' hd'; (try k_lt l1)))
-- a written condition, ahead of all
local macro_rules | `(tactic| walk_at "ite") => `(tactic| (k_closed; k_dflt (first | refine ite_pos (by decide) ?_ | refine ite_neg (by decide) ?_)))
local macro_rules | `(tactic| walk_at "ite") => `(tactic| (k_here; first | with_reducible refine ite_tt ?_ | with_reducible refine ite_ff ?_))
-- a name of the frame's or of the top's, ahead of the kit's other lines
local macro_rules | `(tactic| walk_at "eval Name") => `(tactic| (k_here; (fail_if_success (with_reducible show wpAny _ _ (eval _ (compEnvC _ _ _ _)) _ _ _)); k_dflt (first | (refine' nameX_L ?F ?v ?_ ?a ?b; (case F => k_asm); (case a => rfl); (case b => rfl); (case v => rfl); k_whole) | (refine' nameX_K ?F ?X ?T ?e ?_ ?a ?b; (case F => k_asm); (case X => k_asm); (case T => k_asm); (case a => rfl); (case b => rfl); (case e => k_is); k_whole))))

local macro_rules | `(tactic| walk_at "call ref") => `(tactic| (k_here; (with_reducible show wpAny _ _ (call (Value.ref 111) _) _ _ _); k_dflt (refine' neg_ok ?X ?T ?C ?I ?_; (case X => k_in); (case T => exact Top.keeps (by assumption) (Fr.keep (by assumption))); (case C => exact Nice.less (by assumption) (by decide)); (case I => ktr_rel); intro r' h' tk' k' I'; (have F' := Fr.stay (by assumption) k'); (have N' := News.stay (by assumption) k'); (have P' := IsM.place F' N' I'); clear I'; (rcases P' with I0' | ⟨o', N2', hO'⟩)); (all_goals ((try dsimp only); (try dsimp only at k'); (try k_sweep)))))
local macro_rules | `(tactic| walk_at "call ref") => `(tactic| (k_here; (with_reducible show wpAny _ _ (call (Value.ref 126) _) _ _ _); k_dflt (refine' sign_ok3 ?X ?T ?C ?I ?S ?_ ?_ ?_; (case X => k_in); (case T => exact Top.keeps (by assumption) (Fr.keep (by assumption))); (case C => exact Nice.less (by assumption) (by decide)); (case I => ktr_rel); (case S => exact (Ok.facts (by assumption)).1)); (all_goals (intro e'; first | (exfalso; (rcases sign_zero (by assumption) e' with z | z) <;> (subst z; law_clear; simp_all; done)) | (intro h' tk' t' k'; (have F' := Fr.stay (by assumption) k'); (have N' := News.stay (by assumption) k'); (try dsimp only); (try dsimp only at k'); (try k_sweep))))))
local macro_rules | `(tactic| walk_at "call ref") => `(tactic| (k_here; (with_reducible show wpAny _ _ (call (Value.ref 227) _) _ _ _); k_dflt (refine' lsign_ok ?X ?T ?C ?I ?_; (case X => k_in); (case T => exact Top.keeps (by assumption) (Fr.keep (by assumption))); (case C => exact Nice.less (by assumption) (by decide)); (case I => ktr_rel); intro h' tk' t' k' lo' hi'; (have F' := Fr.stay (by assumption) k'); (have N' := News.stay (by assumption) k')); (try dsimp only); (try dsimp only at k'); (try k_sweep)))
local macro_rules | `(tactic| walk_at "call ref") => `(tactic| (k_here; (with_reducible show wpAny _ _ (call (Value.ref 220) _) _ _ _); k_dflt (refine' others_ok ?X ?T ?C ?_; (case X => k_in); (case T => exact Top.keeps (by assumption) (Fr.keep (by assumption))); (case C => exact Nice.less (by assumption) (by decide)); intro l' r1' r2' r3' h' tk' a1' a2' a3' a4' b1' b2' b3' b4' c1' c2' c3' c4' k' M'; (have F' := Fr.stay (by assumption) k'); (have N' := News.made (by assumption) (by assumption) k' M'); clear M'); (try dsimp only); (try dsimp only [List.cons_append, List.nil_append] at N'); (try dsimp only at k'); (try k_sweep)))

local macro_rules | `(tactic| walk_at "call ref") => `(tactic| (k_here; (with_reducible show wpAny _ _ (call (Value.ref 241) _) _ _ _); k_dflt (refine' infinite_ok ?X ?T ?C  ?_; (case X => k_in); (case T => exact Top.keeps (by assumption) (Fr.keep (by assumption))); (case C => exact Nice.less (by assumption) (by decide));  intro r' h' tk' a' b' c' d' k' M'; (have F' := Fr.stay (by assumption) k'); (have N' := News.made (by assumption) (by assumption) k' M'); clear M'); (try dsimp only); (try dsimp only [List.cons_append, List.nil_append] at N'); (try dsimp only at k'); (try k_sweep)))
local macro_rules | `(tactic| walk_at "call ref") => `(tactic| (k_here; (with_reducible show wpAny _ _ (call (Value.ref 234) _) _ _ _); k_dflt (refine' great_ok ?X ?T ?C ?I ?_ ?_; (case X => k_in); (case T => exact Top.keeps (by assumption) (Fr.keep (by assumption))); (case C => exact Nice.less (by assumption) (by decide)); (case I => ktr_rel)); (all_goals (intro e'; first | (tb_start; done) | (intro h' tk' k'; (have F' := Fr.stay (by assumption) k'); (have N' := News.stay (by assumption) k'); (try dsimp only); (try dsimp only at k'); (try k_sweep))))))

local macro_rules | `(tactic| walk_at "call ref") => `(tactic| (k_here; (with_reducible show wpAny _ _ (call (Value.ref 248) _) _ _ _); k_dflt (refine' sum_ok ?X ?T ?C ?I ?J ?_; (case X => k_in); (case T => exact Top.keeps (by assumption) (Fr.keep (by assumption))); (case C => exact Nice.less (by assumption) (by decide)); (case I => ktr_rel); (case J => ktr_rel); intro r' h' tk' k' I'; (have F' := Fr.stay (by assumption) k'); (have N' := News.stay (by assumption) k')); (try dsimp only); (try dsimp only at k'); (try k_sweep)))
local macro_rules | `(tactic| walk_at "call ref") => `(tactic| (k_here; (with_reducible show wpAny _ _ (call (Value.ref 255) _) _ _ _); k_dflt (refine' prod_ok ?X ?T ?C ?I ?J ?_; (case X => k_in); (case T => exact Top.keeps (by assumption) (Fr.keep (by assumption))); (case C => exact Nice.less (by assumption) (by decide)); (case I => ktr_rel); (case J => ktr_rel); intro r' h' tk' k' I'; (have F' := Fr.stay (by assumption) k'); (have N' := News.stay (by assumption) k')); (try dsimp only); (try dsimp only at k'); (try k_sweep)))
local macro_rules | `(tactic| walk_at "call ref") => `(tactic| (k_here; (with_reducible show wpAny _ _ (call (Value.ref 269) _) _ _ _); k_dflt (refine' pow_ok ?X ?T ?C ?I ?_; (case X => k_in); (case T => exact Top.keeps (by assumption) (Fr.keep (by assumption))); (case C => exact Nice.less (by assumption) (by decide)); (case I => ktr_rel); intro r' h' tk' k' I'; (have F' := Fr.stay (by assumption) k'); (have N' := News.stay (by assumption) k')); (try dsimp only); (try dsimp only at k'); (try k_sweep)))
local macro_rules | `(tactic| walk_at "call ref") => `(tactic| (k_here; (with_reducible show wpAny _ _ (call (Value.ref 262) _) _ _ _); k_dflt (refine' quot_ok ?X ?T ?C ?I ?J ?_ ?_; (case X => k_in); (case T => exact Top.keeps (by assumption) (Fr.keep (by assumption))); (case C => exact Nice.less (by assumption) (by decide)); (case I => ktr_rel); (case J => ktr_rel)); (all_goals (intro e'; first | (tb_start; done) | ((first | intro r' h' tk' k' I' | intro h' tk' k'); (have F' := Fr.stay (by assumption) k'); (have N' := News.stay (by assumption) k'); (try dsimp only); (try dsimp only at k'); (try k_sweep))))))

local macro_rules | `(tactic| walk_at "call ref") => `(tactic| (k_here; (with_reducible show wpAny _ _ (call (Value.ref 134) _) _ _ _); k_dflt (refine' add_ok ?X ?T ?C ?I ?J ?hb ?ho ?hs ?_; (case hb => first | exact bind_add4 (by k_in) | exact bindsAt_of (by k_is) (by first | exact BindsTo.of_eq rfl | exact binds_K (by k_in) rfl (by k_is) rfl rfl rfl)); (case X => k_in); (case T => exact Top.keeps (by assumption) (Fr.keep (by assumption))); (case C => exact Nice.less (by assumption) (by decide)); (case I => ktr_rel); (case J => ktr_rel); (case ho => kwd_rel); (case hs => first | exact Or.inl rfl | exact Or.inr rfl); intro r' h' tk' k' I' _; (have F' := Fr.stay (by assumption) k'); (have N' := News.stay (by assumption) k')); (try dsimp only); (try dsimp only at k'); (try k_sweep)))

local macro_rules | `(tactic| walk_at "call ref") => `(tactic| (k_here; (with_reducible show wpAny _ _ (call (Value.ref 142) _) _ _ _); k_dflt (refine' sub_ok ?X ?T ?C ?I ?J ?ho ?_; (case I => ktr_rel); (case J => ktr_rel); (case ho => kwd_rel); (case X => k_in); (case T => exact Top.keeps (by assumption) (Fr.keep (by assumption))); (case C => exact Nice.less (by assumption) (by decide)); intro r' h' tk' k' I'; (have F' := Fr.stay (by assumption) k'); (have N' := News.stay (by assumption) k')); (try dsimp only); (try dsimp only at k'); (try k_sweep)))
local macro_rules | `(tactic| walk_at "call ref") => `(tactic| (k_here; (with_reducible show wpAny _ _ (call (Value.ref 158) _) _ _ _); k_dflt (refine' mul_ok ?X ?T ?C ?I ?J ?hb ?ox ?oy ?ho ?_; (case hb => exact bindsAt_of (by k_is) (by first | exact BindsTo.of_eq rfl | exact binds_K (by k_in) rfl (by k_is) rfl rfl rfl));(case I => ktr_rel); (case J => ktr_rel); (case ox => first | assumption | exact IntM.ok (by assumption)); (case oy => first | assumption | exact IntM.ok (by assumption)); (case ho => first | assumption | exact Or.inl (by assumption) | exact Or.inr (by assumption)); (case X => k_in); (case T => exact Top.keeps (by assumption) (Fr.keep (by assumption))); (case C => exact Nice.less (by assumption) (by decide)); intro r' h' tk' k' I'; (have F' := Fr.stay (by assumption) k'); (have N' := News.stay (by assumption) k')); (try dsimp only); (try dsimp only at k'); (try k_sweep)))

local macro_rules | `(tactic| walk_at "call ref") => `(tactic| (k_here; (with_reducible show wpAny _ _ (call (Value.ref 174) _) _ _ _); k_dflt (refine' div_ok ?X ?T ?C ?I ?J ?hb ?ox ?oy ?ho ?ny ?_; (case hb => exact bindsAt_of (by k_is) (by first | exact BindsTo.of_eq rfl | exact binds_K (by k_in) rfl (by k_is) rfl rfl rfl)); (case X => k_in); (case T => exact Top.keeps (by assumption) (Fr.keep (by assumption))); (case C => exact Nice.less (by assumption) (by decide)); (case I => ktr_rel); (case J => ktr_rel); (case ox => first | assumption | exact IntM.ok (by assumption)); (case oy => assumption); (case ho => first | assumption | exact Or.inr (by assumption)); (case ny => first | assumption | exact sp_ne_zero (by assumption)); intro r' h' tk' k' I'; (have F' := Fr.stay (by assumption) k'); (have N' := News.stay (by assumption) k')); (try dsimp only); (try dsimp only at k'); (try k_sweep)))

local macro_rules | `(tactic| walk_at "call ref") => `(tactic| (k_here; (with_reducible show wpAny _ _ (call (Value.ref 95) _) _ _ _); k_dflt (refine' fi_ok ?X ?T ?C ?h1 ?h2 ?_; (case X => k_in); (case T => exact Top.keeps (by assumption) (Fr.keep (by assumption))); (case C => exact Nice.less (by assumption) (by decide)); (case h1 => assumption); (case h2 => assumption); intro r' h' tk' y' k' I' J'; (have F' := Fr.stay (by assumption) k'); (have N' := News.stay (by assumption) k')); (try dsimp only); (try dsimp only at k'); (try k_sweep)))

local macro_rules | `(tactic| walk_at "call ref") => `(tactic| (k_here; (with_reducible show wpAny _ _ (call (Value.ref 166) _) _ _ _); k_dflt (refine' mint_ok ?X ?T ?C ?I ?ox ?sx ?h1 ?h2 ?_; (case X => k_in); (case T => exact Top.keeps (by assumption) (Fr.keep (by assumption))); (case C => exact Nice.less (by assumption) (by decide)); (case I => ktr_rel); (case ox => assumption); (case sx => assumption);(case h1 => assumption); (case h2 => assumption); intro r' h' tk' k' I'; (have F' := Fr.stay (by assumption) k'); (have N' := News.stay (by assumption) k')); (try dsimp only); (try dsimp only at k'); (try k_sweep)))
local macro_rules | `(tactic| walk_at "call ref") => `(tactic| (k_here; (with_reducible show wpAny _ _ (call (Value.ref 182) _) _ _ _); k_dflt (refine' rint_ok ?X ?T ?C ?I ?ox ?sx ?h1 ?h2 ?_; (case X => k_in); (case T => exact Top.keeps (by assumption) (Fr.keep (by assumption))); (case C => exact Nice.less (by assumption) (by decide)); (case I => ktr_rel); (case ox => assumption); (case sx => assumption);(case h1 => assumption); (case h2 => assumption); intro r' h' tk' k' I'; (have F' := Fr.stay (by assumption) k'); (have N' := News.stay (by assumption) k')); (try dsimp only); (try dsimp only at k'); (try k_sweep)))
local macro_rules | `(tactic| walk_at "call ref") => `(tactic| (k_here; (with_reducible show wpAny _ _ (call (Value.ref 191) _) _ _ _); k_dflt (refine' pint_ok ?X ?T ?C ?I ?ox ?sx ?h1 ?h2 ?_; (case X => k_in); (case T => exact Top.keeps (by assumption) (Fr.keep (by assumption))); (case C => exact Nice.less (by assumption) (by decide)); (case I => ktr_rel); (case ox => assumption); (case sx => assumption);(case h1 => assumption); (case h2 => assumption); intro r' h' tk' k' I'; (have F' := Fr.stay (by assumption) k'); (have N' := News.stay (by assumption) k')); (try dsimp only); (try dsimp only at k'); (try k_sweep)))
local macro_rules | `(tactic| walk_at "call ref") => `(tactic| (k_here; (with_reducible show wpAny _ _ (call (Value.ref 199) _) _ _ _); k_dflt (refine' sqrt_ok ?X ?T ?C ?I ?h1 ?h2 ?_; (case X => k_in); (case T => exact Top.keeps (by assumption) (Fr.keep (by assumption))); (case C => exact Nice.less (by assumption) (by decide)); (case I => ktr_rel); (case h1 => assumption); (case h2 => assumption); intro h' tk' k'; (have F' := Fr.stay (by assumption) k'); (have N' := News.stay (by assumption) k')); (try dsimp only); (try dsimp only at k'); (try k_sweep)))

section
variable {w : World} {A : Around} {E : Value → Shared → Prop} {s : Shared} {Q : Value → Shared → Prop}
  {p : Program} {loose : List Str} {mean : ExcName → Option Value} {mg mb : Str → Option Value} {x y : M4} {r q : Addr}


theorem over_ok {pr : Int} {tp : Tok} {rv : Value} (X : (hd.heap_39 w.params).In s.heap) (T : Top p loose mean mg mb s.heap) (C : Nice 3 A) (I : IsM s.heap r x) (J : IsM s.heap q y)
   (ox : Ok x) (oy : Ok y) (hodd : spM x ∨ spM y) (ny : y ≠ zero)
   (h : ∀ r' h' tk', s.heap.StaysIn h' → IsM h' r' (quotM x y) → Q (.ref r') ⟨h', s.gens, s.drawn, tk', s.os⟩) : wpAny (model P0 w) A (call (.ref 276) [.ref r, .ref q, .int pr tp, rv, .none]) Q E s := by
  have B : Binds [(Str.ofString "s", .ref r), (Str.ofString "t", .ref q), (Str.ofString "prec", .int pr tp), (Str.ofString "rnd", rv), (Str.ofString "number", .none)] := trivial
  kwd_inv
  kwd_less
  all_goals exact h _ _ _ (Fr.keep (by assumption)) (by assumption)
theorem overi_ok {n pr : Int} {tn tp : Tok} {rv : Value} (X : (hd.heap_39 w.params).In s.heap) (T : Top p loose mean mg mb s.heap) (C : Nice 5 A) (I : IsM s.heap r x) (J : IsM s.heap q y)
   (oy : Ok y) (sy : spM y) (h1 : -9 ≤ n) (h2 : n ≤ 9)
   (h : ∀ r' h' tk', s.heap.StaysIn h' → IsM h' r' (quotM (wholeM n) y) → Q (.ref r') ⟨h', s.gens, s.drawn, tk', s.os⟩) : wpAny (model P0 w) A (call (.ref 276) [.ref r, .ref q, .int pr tp, rv, .int n tn]) Q E s := by
  have B : Binds [(Str.ofString "s", .ref r), (Str.ofString "t", .ref q), (Str.ofString "prec", .int pr tp), (Str.ofString "rnd", rv), (Str.ofString "number", .int n tn)] := trivial
  kwd_inv
  kwd_less
  all_goals exact h _ _ _ (Fr.keep (by assumption)) (by assumption)
theorem root_ok {pr : Int} {tp : Tok} {rv : Value} (X : (hd.heap_39 w.params).In s.heap) (T : Top p loose mean mg mb s.heap) (C : Nice 2 A) (I : IsM s.heap r x) (h1 : x.1 = 0) (h2 : x.2.1 = 0)
   (h : ∀ h' tk', s.heap.StaysIn h' → Q (.ref r) ⟨h', s.gens, s.drawn, tk', s.os⟩) : wpAny (model P0 w) A (call (.ref 283) [.ref r, .int pr tp, rv]) Q E s := by
  have B : Binds [(Str.ofString "s", .ref r), (Str.ofString "prec", .int pr tp), (Str.ofString "rnd", rv)] := trivial
  kwd_inv
  kwd_less
  all_goals exact h _ _ (Fr.keep (by assumption))

section
variable {prog : Program} {K : Frag}
theorem leave_newF {M : Model} {A : Around} {E : Value → Shared → Prop} {s' : Shared} {base g h : Heap} {outer : List Env} {L a e : Addr} {m : Str → Option Value} {name : Str} {scope : Scope} {cd : Value} {Q : Unit → Shared → Prop} {cls : String}
    (K : Below A base outer g) (hx : Heap.NewExc h s'.heap e cls) (F : Fr g L h m)
    (hQ : ∀ h' a0, Heap.FlyingW base outer e (.type cls) a0 h' → g.UpToSlots h' → Q () { s' with heap := h' }) (hk : scope.kind = .function := by rfl) :
    wpAny M (A.deeper (envOf name scope L a cd)) (leaving (envOf name scope L a cd) (.ref e)) Q E s' := by
  have K' := K.push (name := name) (a := a) (cd := cd) F hk
  obtain ⟨ob, tp, he, hcls, hd⟩ := hx.there
  have hen : base.get? e = none := fresh_of_stays K'.stays hx.new
  refine wpAny_leaving_firstW (a0 := tp) K'.stack (K'.frames.of_keeps fun b o hb _ => ⟨o, hx.keeps b o hb, rfl⟩) rfl he (fun b o hb => hx.keeps b o (K'.stays b o hb)) hen hd rfl rfl fun h' hL => ?_
  obtain ⟨k1, ⟨_, _, k2⟩, k3, k4⟩ := hL
  exact hQ h' tp ⟨k1, hen, k2, by rw [← hcls]; exact k3⟩ (((Heap.UpToSlots.of_keeps F.keep).trans (Heap.UpToSlots.of_keeps hx.keeps)).trans k4)
theorem leave_madeF {M : Model} {A : Around} {E : Value → Shared → Prop} {s' : Shared} {base g h : Heap} {outer : List Env} {L a e : Addr} {m : Str → Option Value} {name : Str} {scope : Scope} {cd : Value} {Q : Unit → Shared → Prop} {cls : Value} {vs : List Value}
    (K : Below A base outer g) (hx : Heap.MadeExcOf h s'.heap e cls vs) (F : Fr g L h m)
    (hQ : ∀ h' a0, Heap.FlyingW base outer e cls a0 h' → g.UpToSlots h' → Q () { s' with heap := h' }) (hk : scope.kind = .function := by rfl) :
    wpAny M (A.deeper (envOf name scope L a cd)) (leaving (envOf name scope L a cd) (.ref e)) Q E s' := by
  have K' := K.push (name := name) (a := a) (cd := cd) F hk
  obtain ⟨tp, he, _⟩ := hx.there
  have hen : base.get? e = none := fresh_of_stays K'.stays hx.new
  refine wpAny_leaving_firstW (a0 := .ref tp) K'.stack (K'.frames.of_keeps fun b o hb _ => ⟨o, hx.keeps b o hb, rfl⟩) rfl he (fun b o hb => hx.keeps b o (K'.stays b o hb)) hen rfl rfl rfl fun h' hL => ?_
  obtain ⟨k1, ⟨_, _, k2⟩, k3, k4⟩ := hL
  exact hQ h' _ ⟨k1, hen, k2, k3⟩ (((Heap.UpToSlots.of_keeps F.keep).trans (Heap.UpToSlots.of_keeps hx.keeps)).trans k4)
theorem leave_onF {M : Model} {A : Around} {E : Value → Shared → Prop} {s' : Shared} {base g h : Heap} {outer : List Env} {L a e : Addr} {m : Str → Option Value} {name : Str} {scope : Scope} {cd : Value} {Q : Unit → Shared → Prop} {cls a0 : Value}
    (K : Below A base outer g) (F : Fr g L h m) (hfl : Heap.FlyingW base (envOf name scope L a cd :: outer) e cls a0 s'.heap) (hsm : h.UpToSlots s'.heap)
    (hQ : ∀ h', Heap.FlyingW base outer e cls a0 h' → g.UpToSlots h' → Q () { s' with heap := h' }) :
    wpAny M (A.deeper (envOf name scope L a cd)) (leaving (envOf name scope L a cd) (.ref e)) Q E s' :=
  wpAny_leaves_onW (Around.frames_deeper K.stack) rfl hfl fun h' x1 x2 => hQ h' x1 (((Heap.UpToSlots.of_keeps F.keep).trans hsm).trans x2)

/-- the exception is caught by the def's own try -/
theorem caughtF {A₀ : Around} {s' : Shared} {base g h : Heap} {outer : List Env} {L a e : Addr} {m : Str → Option Value} {name : Str} {scope : Scope} {cd a0 : Value} {b₀ : Stmt} {suite : List Stmt} {pos np : Pos} {rest : List ExceptHandler} {Q : Flow → Shared → Prop} {z : Str} {X' T' : String}
    (Kb : Below A₀ base outer g) (hz : base.objs.size ≤ g.objs.size) (F : Fr g L h m) (hsm : h.UpToSlots s'.heap) (R : Heap.FlyingW base (envOf name scope L a cd :: outer) e (.type X') a0 s'.heap)
    (X : K.In base) (T : TopRead p loose mg mb base) (ex : nsIn K mainGlobals z = some none) (hv : bootBuiltins z = some (.type T')) (hn : z ≠ "__name__")
    (hexc : isSubtype (.type T') (.type "BaseException") = pure true) (hnt : isSubtype (.type ((Manifest.find? T').elim "type" fun y => y.metatype)) (.type "tuple") = pure false) (hsub : isSubtype (.type X') (.type T') = pure true)
    (k : ∀ h', Fr base L h' m → News base L h' [] → g.UpToSlots h' → wpAny (model prog w) ((A₀.deeper (envOf name scope L a cd)).mark (some (.ref e))) (execs (b₀ :: suite) (envOf name scope L a cd)) Q (fun _ _ => False) { s' with heap := h' })
    (hk : scope.kind = .function := by rfl) (hx : (envOf name scope L a cd).kindOf z = some .globalImplicit := by rfl) (hd : (z == ("__debug__" : Str)) = false := by decide) :
    wpAny (model prog w) (A₀.deeper (envOf name scope L a cd)) (noteFrame (.ref e) (envOf name scope L a cd))
      (fun _ s₂ => wpAny (model prog w) (A₀.deeper (envOf name scope L a cd)) (setFlight (.ref e) none) (fun _ s₃ =>
        wpAny (model prog w) (A₀.deeper (envOf name scope L a cd)) (handleBy (.ref e) (envOf name scope L a cd) (.ExceptHandler (some (.Name z np)) none (b₀ :: suite) pos :: rest)) Q E s₃) E s₂) E s' := by
  have F0 : Fr base L h m := ⟨F.ns, fun b o q => F.keep b o (Kb.stays b o q), Nat.le_trans hz F.above⟩
  have up0 : g.UpToSlots s'.heap := (Heap.UpToSlots.of_keeps F.keep).trans hsm
  refine wpAny_looks_onW (Around.frames_deeper Kb.stack) rfl R fun h₄ hheld₄ hsm₄ => ?_
  refine wpAny_landsW hheld₄ fun h₅ hheld hsm₅' => ?_
  have hsm₅ := hsm₄.trans hsm₅'
  have F₅ := F0.of_stays hheld.1 (hsm.trans hsm₅)
  obtain ⟨ob, hob, hobc⟩ := hheld.there
  refine wpAny_handleBy_builtin (X := X') (T := T') (b := true) hexc hnt hsub (ld_builtin_at F₅ T.g (mg_none_of X T.g ex) T.b ((T.builtins z hn).trans hv) ⟨rfl, ⟨ob, hob, hobc⟩, ?_⟩ hk hx hd)
  refine lands_againW hheld fun h₆ hfl₆ hsm₆ => ?_
  have F₆ := F0.of_stays hfl₆.1 ((hsm.trans hsm₅).trans hsm₆)
  exact wpAny_mono (k h₆ F₆ News.nil ((up0.trans hsm₅).trans hsm₆)) (fun _ _ x => x) fun _ _ x => x.elim
theorem caughtO {A₀ : Around} {s' : Shared} {base g h : Heap} {outer : List Env} {L a e Cc : Addr} {m : Str → Option Value} {name : Str} {scope : Scope} {cd a0 : Value} {b₀ : Stmt} {suite : List Stmt} {pos np : Pos} {rest : List ExceptHandler} {Q : Flow → Shared → Prop} {z : Str} {bmB : List Value} {newId : String}
    (Kb : Below A₀ base outer g) (hz : base.objs.size ≤ g.objs.size) (F : Fr g L h m) (hsm : h.UpToSlots s'.heap) (R : Heap.FlyingW base (envOf name scope L a cd :: outer) e (.ref Cc) a0 s'.heap)
    (X : K.In base) (T : TopRead p loose mg mb base) (ex : nsIn K mainGlobals z = some (some (.ref Cc))) (q : excIn K Cc bmB newId = true) (hbase : bmB.contains (.type "BaseException") = true)
    (k : ∀ h', Fr base L h' m → News base L h' [] → g.UpToSlots h' → wpAny (model prog w) ((A₀.deeper (envOf name scope L a cd)).mark (some (.ref e))) (execs (b₀ :: suite) (envOf name scope L a cd)) Q (fun _ _ => False) { s' with heap := h' })
    (hk : scope.kind = .function := by rfl) (hx : (envOf name scope L a cd).kindOf z = some .globalImplicit := by rfl) (hd : (z == ("__debug__" : Str)) = false := by decide) :
    wpAny (model prog w) (A₀.deeper (envOf name scope L a cd)) (noteFrame (.ref e) (envOf name scope L a cd))
      (fun _ s₂ => wpAny (model prog w) (A₀.deeper (envOf name scope L a cd)) (setFlight (.ref e) none) (fun _ s₃ =>
        wpAny (model prog w) (A₀.deeper (envOf name scope L a cd)) (handleBy (.ref e) (envOf name scope L a cd) (.ExceptHandler (some (.Name z np)) none (b₀ :: suite) pos :: rest)) Q E s₃) E s₂) E s' := by
  have F0 : Fr base L h m := ⟨F.ns, fun b o q => F.keep b o (Kb.stays b o q), Nat.le_trans hz F.above⟩
  have up0 : g.UpToSlots s'.heap := (Heap.UpToSlots.of_keeps F.keep).trans hsm
  refine wpAny_looks_onW (Around.frames_deeper Kb.stack) rfl R fun h₄ hheld₄ hsm₄ => ?_
  refine wpAny_landsW hheld₄ fun h₅ hheld hsm₅' => ?_
  have hsm₅ := hsm₄.trans hsm₅'
  have F₅ := F0.of_stays hheld.1 (hsm.trans hsm₅)
  obtain ⟨ob, hob, hobc⟩ := hheld.there
  refine wpAny_handleBy_cons (codeAny_handlers_test (name_K F₅ X T ex ?_ hk hx hd)) (by intro q; cases q)
  obtain ⟨bm, N, nm, qn, bs, hdct, sn, sub, ab, col, dd, k0, k1, k2, k3, k5, mN, hC, hN, hni, TL⟩ := ((own_of_in X T ex q).keeps F₅.keep).obj
  refine wpAny_excMatches_sub_self hC hob hobc (TL.hasType hbase) (codeAny_handlers_suite ?_)
  refine lands_againW hheld fun h₆ hfl₆ hsm₆ => ?_
  have F₆ := F0.of_stays hfl₆.1 ((hsm.trans hsm₅).trans hsm₆)
  exact wpAny_mono (k h₆ F₆ News.nil ((up0.trans hsm₅).trans hsm₆)) (fun _ _ x => x) fun _ _ x => x.elim

theorem enterE {name qual : Str} {params : Arguments} {body : List Stmt} {scope : Scope} {dV kV doc pm cdv ct oc : Value} {an od : Option Addr} {osl : Array (Option Value)} {f : Addr} {vs : List Value} {binds : List (Str × Value)}
    {n : Nat} (hB0 : Binds binds) (X : K.In s.heap) (T : TopRead p loose mg mb s.heap) (C : Nice (n + 1) A)
    (ho : K.lookup f = some ⟨oc, od, .func (fnOf name qual params body scope dV kV doc pm an cdv ct), osl⟩) (hcd : codeIn K cdv qual = true)
    (hbind : BindsTo s (fnOf name qual params body scope dV kV doc pm an cdv ct) ⟨vs, []⟩ binds) (hloc : ∀ y ∈ binds, scope.names.lookup y.1 = some .local)
    (h : ∀ L h₁ tk, Fr s.heap L h₁ (fun y => binds.reverse.lookup y) → News s.heap L h₁ [] → Nice n (A.deeper (envOf qual scope L f cdv)) →
      wpAny (model prog w) (A.deeper (envOf qual scope L f cdv)) (execs body (envOf qual scope L f cdv))
        (fun fl s' => Q (match fl with | .ret v => v | _ => .none) s')
        (fun e s' => wpAny (model prog w) (A.deeper (envOf qual scope L f cdv)) (leaving (envOf qual scope L f cdv) e) (fun _ s'' => E e s'') (fun e' s'' => E e' s'') s')
        ⟨h₁, s.gens, s.drawn, tk, s.os⟩)
    (hco : scope.isCoroutine = false := by rfl) (hgen : scope.isGenerator = false := by rfl) (hk : scope.kind = .function := by rfl)
    (hcell : ∀ x ∈ scope.names, x.2 ≠ .cell := by decide) : wpAny (model prog w) A (call (.ref f) vs) Q E s := by
  refine wpAny_call (codeAny_call_def (fd := fnOf name qual params body scope dV kV doc pm an cdv ct) (body := body) (binds := binds) (by have := C.dep; omega) (X _ _ ho) rfl T.nolimit (codeRec_of X hcd) rfl hbind hcell hloc (fun h₁ hns hk₁ => ?_) hco hgen hk)
  exact wpAny_mono (h _ h₁ _ ⟨hns, hk₁, Nat.le_refl _⟩ News.nil C.deeper) (fun _ _ q => q) (fun _ _ q => q)
end
local macro_rules | `(tactic| tb_rel) => `(tactic| (
  refine' enterE ?B ?X ?T ?C ?ho ?hcd ?hbind ?hloc ?_ ?c2 ?c3 ?c4 ?c5
  (case B => assumption)
  (case X => assumption)
  (case T => exact topRead_of (by assumption))
  (case C => assumption)
  (case ho => k_is)
  (case hcd => k_is)
  (case hbind => first | exact BindsAt.at (by assumption) (by k_is) | exact BindsTo.of_eq rfl | exact binds_K (by assumption) rfl (by k_is) rfl rfl rfl)
  (case hloc => exact locs rfl)
  (case c2 => exact rfl)
  (case c3 => exact rfl)
  (case c4 => exact rfl)
  (case c5 => decide)
  intro L' h' tk' F' N' C'
  (try dsimp only [List.reverse_cons, List.reverse_nil, List.nil_append, List.cons_append])
  (try dsimp only [List.reverse_cons, List.reverse_nil, List.nil_append, List.cons_append] at F')
  (try k_fold)))

local macro_rules | `(tactic| walk_at "exec Raise some none") => `(tactic| (k_here; (with_reducible show wpAny _ _ (exec (Stmt.Raise (some (Expr.Name _ _)) none _) _) _ _ _); k_dflt (refine' Raise_classB ?hh excClass_ZeroDivisionError ?sub ?hx ?_; (case hh => exact Nice.hh (by assumption)); (case sub => rw [isSubtype_type]; kernel_rfl); (case hx => (refine' nameX_B ?F ?X ?T ?e ?v ?n ?k ?a ?b; (case F => k_asm); (case X => k_asm); (case T => k_asm); (case a => rfl); (case b => rfl); (case e => k_is); (case v => boot_fast); (case n => decide); (case k => exact ⟨rfl, rfl⟩))); intro h' e' x')))
local macro_rules | `(tactic| walk_at "leaving ref") => `(tactic| (k_here; k_dflt (refine' leave_newF ?K ?x ?F ?_; (case K => assumption); (case x => assumption); (case F => k_asm); intro h' a' fl' up')))

theorem div0_ok {pr : Int} {tp : Tok} {rv : Value} {base : Heap} {outer : List Env} (Bl : Below A base outer s.heap) (X : (hd.heap_39 w.params).In s.heap) (T : Top p loose mean mg mb s.heap) (C : Nice 2 A) (I : IsM s.heap r x) (J : IsM s.heap q zero)
   (h : ∀ e h' tk' a0, Heap.FlyingW base outer e (.type "ZeroDivisionError") a0 h' → s.heap.UpToSlots h' → E (.ref e) ⟨h', s.gens, s.drawn, tk', s.os⟩) : wpAny (model P0 w) A (call (.ref 174) [.ref r, .ref q, .int pr tp, rv]) Q E s := by
  have B : Binds [(Str.ofString "s", .ref r), (Str.ofString "t", .ref q), (Str.ofString "prec", .int pr tp), (Str.ofString "rnd", rv)] := trivial
  tb_rel
  kwd_less
  all_goals exact h _ _ _ _ (by assumption) (by assumption)
local macro_rules | `(tactic| walk_at "call ref") => `(tactic| (k_here; (with_reducible show wpAny _ _ (call (Value.ref 174) _) _ _ _); k_dflt (refine' div0_ok ?B ?X ?T ?C ?I ?J ?_; (case B => exact pushX (by assumption) (by k_asm) rfl rfl); (case X => k_in); (case T => exact Top.keeps (by assumption) (Fr.keep (by assumption))); (case C => exact Nice.less (by assumption) (by decide)); (case I => ktr_rel); (case J => ktr_rel); intro e' h' tk' a' fl' up')))
local macro_rules | `(tactic| walk_at "leaving ref") => `(tactic| (k_here; k_dflt (refine' leave_onF ?K ?F ?x ?u ?_; (case K => assumption); (case F => k_asm); (case x => assumption); (case u => assumption); intro h' fl' up')))

theorem rint0_ok {n pr : Int} {tn tp : Tok} {rv : Value} {base : Heap} {outer : List Env} (Bl : Below A base outer s.heap) (X : (hd.heap_39 w.params).In s.heap) (T : Top p loose mean mg mb s.heap) (C : Nice 4 A) (J : IsM s.heap q zero) (h1 : -9 ≤ n) (h2 : n ≤ 9)
   (h : ∀ e h' tk' a0, Heap.FlyingW base outer e (.type "ZeroDivisionError") a0 h' → s.heap.UpToSlots h' → E (.ref e) ⟨h', s.gens, s.drawn, tk', s.os⟩) : wpAny (model P0 w) A (call (.ref 182) [.int n tn, .ref q, .int pr tp, rv]) Q E s := by
  have B : Binds [(Str.ofString "n", .int n tn), (Str.ofString "t", .ref q), (Str.ofString "prec", .int pr tp), (Str.ofString "rnd", rv)] := trivial
  tb_rel
  kwd_less
  all_goals exact h _ _ _ _ (by assumption) (by assumption)

local macro_rules | `(tactic| walk_at "call ref") => `(tactic| (k_here; (with_reducible show wpAny _ _ (call (Value.ref 182) _) _ _ _); k_dflt (refine' rint0_ok ?B ?X ?T ?C ?J ?h1 ?h2 ?_; (case B => exact pushX (by assumption) (by k_asm) rfl rfl); (case X => k_in); (case T => exact Top.keeps (by assumption) (Fr.keep (by assumption))); (case C => exact Nice.less (by assumption) (by decide)); (case J => ktr_rel); (case h1 => assumption); (case h2 => assumption); intro e' h' tk' a' fl' up')))
local macro_rules | `(tactic| walk_at "noteFrame ref") => `(tactic| (k_here; k_dflt (refine' caughtF (X' := "ZeroDivisionError") (T' := "ZeroDivisionError") ?K ?hz ?F ?hsm ?R ?X ?T ?ex PyProof.Rows.Boot.«ZeroDivisionError» ?n PySem.F.isExc_ZeroDivisionError PySem.F.notTuple_ZeroDivisionError ?sub ?_ ?c1 ?c2 ?c3; (case K => assumption); (case hz => assumption); (case F => k_asm); (case hsm => assumption); (case R => assumption); (case X => assumption); (case T => exact topRead_of (by assumption)); (case ex => k_is); (case n => decide); (case sub => rw [isSubtype_type]; kernel_rfl); (case c1 => rfl); (case c2 => rfl); (case c3 => decide); intro h' F' N' up'); (try k_sweep); (try k_fold)))

theorem over0_ok {pr : Int} {tp : Tok} {rv : Value} {base : Heap} {outer : List Env} (Bl : Below A base outer s.heap) (hz : base.objs.size ≤ s.heap.objs.size) (X0 : (hd.heap_39 w.params).In base) (T0 : Top p loose mean mg mb base) (C : Nice 3 A) (I : IsM s.heap r x) (J : IsM s.heap q zero)
   (h : ∀ h' tk', base.StaysIn h' → s.heap.UpToSlots h' → Q .none ⟨h', s.gens, s.drawn, tk', s.os⟩) : wpAny (model P0 w) A (call (.ref 276) [.ref r, .ref q, .int pr tp, rv, .none]) Q E s := by
  have B : Binds [(Str.ofString "s", .ref r), (Str.ofString "t", .ref q), (Str.ofString "prec", .int pr tp), (Str.ofString "rnd", rv), (Str.ofString "number", .none)] := trivial
  have X := X0.keeps Bl.stays
  have T := T0.keeps Bl.stays
  kwd_inv
  kwd_less
  all_goals exact h _ _ (Fr.keep (by assumption)) (by assumption)
theorem overi0_ok {n pr : Int} {tn tp : Tok} {rv : Value} {base : Heap} {outer : List Env} (Bl : Below A base outer s.heap) (hz : base.objs.size ≤ s.heap.objs.size) (X0 : (hd.heap_39 w.params).In base) (T0 : Top p loose mean mg mb base) (C : Nice 5 A) (J : IsM s.heap q zero) (h1 : -9 ≤ n) (h2 : n ≤ 9)
   (h : ∀ h' tk', base.StaysIn h' → s.heap.UpToSlots h' → Q .none ⟨h', s.gens, s.drawn, tk', s.os⟩) : wpAny (model P0 w) A (call (.ref 276) [.ref r, .ref q, .int pr tp, rv, .int n tn]) Q E s := by
  have B : Binds [(Str.ofString "s", .ref r), (Str.ofString "t", .ref q), (Str.ofString "prec", .int pr tp), (Str.ofString "rnd", rv), (Str.ofString "number", .int n tn)] := trivial
  have X := X0.keeps Bl.stays
  have T := T0.keeps Bl.stays
  kwd_inv
  kwd_less
  all_goals exact h _ _ (Fr.keep (by assumption)) (by assumption)

local macro_rules | `(tactic| walk_at "exec Raise some none") => `(tactic| (k_here; (with_reducible show wpAny _ _ (exec (Stmt.Raise (some (Expr.Call (Expr.Name _ _) (_ :: _) [] _)) none _) _) _ _ _); k_dflt (refine' Raise_own ?F ?g ?O PySem.F.excBase_ValueError ?h ?_ ?a ?b ?c ?d ?e; (case F => k_asm); (case g => exact TopRead.g (by k_asm)); (case O => exact own_of_in (by k_asm) (by k_asm) (by k_is) (by k_exc)); (case h => exact Nice.hh (by assumption)); (case a => rfl); (case b => rfl); (case c => rfl); (case d => rfl); (case e => decide); k_whole)))
local macro_rules | `(tactic| walk_at "leaving ref") => `(tactic| (k_here; k_dflt (refine' leave_madeF ?K ?x ?F ?_; (case K => assumption); (case x => assumption); (case F => k_asm); intro h' a' fl' up')))

theorem sqrt0_ok {pr : Int} {tp : Tok} {rv : Value} {base : Heap} {outer : List Env} (Bl : Below A base outer s.heap) (X : (hd.heap_39 w.params).In s.heap) (T : Top p loose mean mg mb s.heap) (C : Nice 1 A) (I : IsM s.heap r ninf)
   (h : ∀ e h' tk' a0, Heap.FlyingW base outer e (.ref 52) a0 h' → s.heap.UpToSlots h' → E (.ref e) ⟨h', s.gens, s.drawn, tk', s.os⟩) : wpAny (model P0 w) A (call (.ref 199) [.ref r, .int pr tp, rv]) Q E s := by
  have B : Binds [(Str.ofString "s", .ref r), (Str.ofString "prec", .int pr tp), (Str.ofString "rnd", rv)] := trivial
  tb_rel
  kwd_less
  all_goals exact h _ _ _ _ (by assumption) (by assumption)
local macro_rules | `(tactic| walk_at "call ref") => `(tactic| (k_here; (with_reducible show wpAny _ _ (call (Value.ref 199) _) _ _ _); k_dflt (refine' sqrt0_ok ?B ?X ?T ?C ?J ?_; (case B => exact pushX (by assumption) (by k_asm) rfl rfl); (case X => k_in); (case T => exact Top.keeps (by assumption) (Fr.keep (by assumption))); (case C => exact Nice.less (by assumption) (by decide)); (case J => ktr_rel); intro e' h' tk' a' fl' up')))
local macro_rules | `(tactic| walk_at "noteFrame ref") => `(tactic| (k_here; k_dflt (refine' caughtO (bmB := [.type "ValueError", .type "Exception", .type "BaseException", .type "object"]) (newId := "ValueError.__new__") ?K ?hz ?F ?hsm ?R ?X ?T ?ex ?q ?b ?_ ?c1 ?c2 ?c3; (case K => assumption); (case hz => assumption); (case F => k_asm); (case hsm => assumption); (case R => assumption); (case X => assumption); (case T => exact topRead_of (by assumption)); (case ex => k_is); (case q => k_exc); (case b => rfl); (case c1 => rfl); (case c2 => rfl); (case c3 => decide); intro h' F' N' up'); (try k_sweep); (try k_fold)))

theorem root0_ok {pr : Int} {tp : Tok} {rv : Value} {base : Heap} {outer : List Env} (Bl : Below A base outer s.heap) (hz : base.objs.size ≤ s.heap.objs.size) (X0 : (hd.heap_39 w.params).In base) (T0 : Top p loose mean mg mb base) (C : Nice 2 A) (J : IsM s.heap r ninf)
   (h : ∀ h' tk', base.StaysIn h' → s.heap.UpToSlots h' → Q .none ⟨h', s.gens, s.drawn, tk', s.os⟩) : wpAny (model P0 w) A (call (.ref 283) [.ref r, .int pr tp, rv]) Q E s := by
  have B : Binds [(Str.ofString "s", .ref r), (Str.ofString "prec", .int pr tp), (Str.ofString "rnd", rv)] := trivial
  have X := X0.keeps Bl.stays
  have T := T0.keeps Bl.stays
  kwd_inv
  kwd_less
  all_goals exact h _ _ (Fr.keep (by assumption)) (by assumption)
end

end
section
local macro_rules | `(tactic| k_mem) => `(tactic| with_reducible assumption)
-- a tuple's fact
local macro_rules | `(tactic| ktr_rel) => `(tactic| first
  | with_reducible assumption
  | exact IsM.of_tup (Fr.tup (by k_asm) (by with_reducible assumption))
  | exact IsM.stay (Fr.keep (by k_asm)) (by with_reducible assumption)
  | exact IsM.of_news (by k_asm) (by k_mem)
  | exact IsM.of_newsO (by k_asm) (by k_mem) (by with_reducible assumption)
  | exact inf_at (by k_in)
  | exact ninf_at (by k_in)
  | exact nan_at (by k_in)
  | exact zero_at (by k_in)
  | exact one_at (by k_in)
  | exact IsM.stay (by with_reducible assumption) (by with_reducible assumption))
-- room
local macro_rules | `(tactic| ktr_room) => `(tactic| first | exact Nice.room (by assumption) | exact Nice.room1 (by assumption))
-- an absurd way
local macro_rules | `(tactic| ktr_unf) => `(tactic| first | exact absurd rfl (by assumption) | skip)
-- entering a def
local macro_rules | `(tactic| kwd_inv) => `(tactic| (
  refine' enter ?B ?X ?T ?C ?ho ?hcd ?hbind ?hloc ?_ ?c2 ?c3 ?c4 ?c5
  (case B => assumption)
  (case X => assumption)
  (case T => exact topRead_of (by assumption))
  (case C => assumption)
  (case ho => k_is)
  (case hcd => k_is)
  (case hbind => first | exact BindsAt.at (by assumption) (by k_is) | exact BindsTo.of_eq rfl | exact binds_K (by assumption) rfl (by k_is) rfl rfl rfl)
  (case hloc => exact locs rfl)
  (case c2 => exact rfl)
  (case c3 => exact rfl)
  (case c4 => exact rfl)
  (case c5 => decide)
  intro L' h' tk' F' N' C'
  (try dsimp only [List.reverse_cons, List.reverse_nil, List.nil_append, List.cons_append])
  (try dsimp only [List.reverse_cons, List.reverse_nil, List.nil_append, List.cons_append] at F')
  (try k_fold)))
-- a store
local macro_rules | `(tactic| walk_at "storeName") => `(tactic| (k_here; k_dflt (refine' storeT ?F ?N ?_ ?a ?b; (case F => k_asm); (case N => k_asm); (case a => rfl); (case b => rfl); k_whole; intro h' tk' F' N'); (try dsimp only); (try k_sweep)))
-- a new tuple of four ints
local macro_rules | `(tactic| walk_at "newTuple") => `(tactic| (k_here; k_dflt (refine' newTup4 ?F ?N ?_; (case F => k_asm); (case N => k_asm); intro D' h' ta' tb' tc' td' F' N' k'); (try dsimp only); (try dsimp only at k'); (try k_sweep)))
-- comparisons
local macro_rules | `(tactic| walk_at "compareOp Eq ref ref") => `(tactic| (k_here; k_dflt (refine' eqM ?I ?J ?u ?_ ?_; (case I => ktr_rel); (case J => ktr_rel); (case u => ktr_room)); (all_goals (intro e'; try tb_start))))
local macro_rules | `(tactic| walk_at "compareOp NotEq ref ref") => `(tactic| (k_here; k_dflt (refine' neM ?I ?J ?u ?_ ?_; (case I => ktr_rel); (case J => ktr_rel); (case u => ktr_room)); (all_goals (intro e'; try tb_start))))
local macro_rules | `(tactic| tb_start) => `(tactic| first | exact absurd rfl (by assumption) | (exfalso; omega) | (exfalso; law_clear; simp_all; done))
-- unpacking
local macro_rules | `(tactic| walk_at "assign Tuple") => `(tactic| (k_here; (with_reducible show wpAny _ _ (assign (Expr.Tuple _ _ _) _ (Value.ref _)) _ _ _); k_dflt (refine' unpackM ?F ?N ?I ?C ?n ?s ?_; (case F => k_asm); (case N => k_asm); (case I => ktr_rel); (case C => assumption); (case n => exact rfl); (case s => exact rfl); intro h' ta' tb' tc' td' F' N'); (try dsimp only); (try k_sweep)))
-- the walk
local macro_rules | `(tactic| kwd_less) => `(tactic| (w_top on; (repeat' (first | (k_unmd; k_unfold; (try dsimp only)) | walk1 | (dsimp only; first | (k_unmd; k_unfold; (try dsimp only)) | walk1) | fail "no step")); (all_goals (try dsimp only))))
local macro_rules | `(tactic| walk_at "assign Tuple") => `(tactic| (k_here; (with_reducible show wpAny _ _ (assign (Expr.Tuple [_, _] _ _) _ (Value.ref _)) _ _ _); k_dflt (refine' unpackN_ ?F ?N ?I ?C ?n ?s ?_; (case F => k_asm); (case N => k_asm); (case I => exact News.isTup (by k_asm) (by k_mem)); (case C => exact Nice.hh (by assumption)); (case n => exact rfl); (case s => exact rfl); intro h' F' N'); (try dsimp only); (try k_sweep)))
local macro_rules | `(tactic| walk_at "unpackItems ref") => `(tactic| (k_here; k_dflt (refine' unpackItemsN_ ?F ?N ?I ?C ?n ?_; (case F => k_asm); (case N => k_asm); (case I => exact News.isTup (by k_asm) (by k_mem)); (case C => exact Nice.hh (by assumption)); (case n => exact rfl); intro h' F' N'); (try dsimp only); (try k_sweep)))
-- an item of a tuple of four
local macro_rules | `(tactic| walk_at "subscriptTail") => `(tactic| (k_here; (with_reducible show wpAny _ _ (subscriptTail _ _ (Value.ref _) (Value.int 0 _)) _ _ _); k_dflt (refine' item4_0 ?I ?_ ?hs; (case I => ktr_rel); (case hs => with_unfolding_all rfl)); k_whole; intro t'; (try dsimp only)))
local macro_rules | `(tactic| walk_at "subscriptTail") => `(tactic| (k_here; (with_reducible show wpAny _ _ (subscriptTail _ _ (Value.ref _) (Value.int 1 _)) _ _ _); k_dflt (refine' item4_1 ?I ?_ ?hs; (case I => ktr_rel); (case hs => with_unfolding_all rfl)); k_whole; intro t'; (try dsimp only)))
local macro_rules | `(tactic| walk_at "subscriptTail") => `(tactic| (k_here; (with_reducible show wpAny _ _ (subscriptTail _ _ (Value.ref _) (Value.int 2 _)) _ _ _); k_dflt (refine' item4_2 ?I ?_ ?hs; (case I => ktr_rel); (case hs => with_unfolding_all rfl)); k_whole; intro t'; (try dsimp only)))
local macro_rules | `(tactic| walk_at "subscriptTail") => `(tactic| (k_here; (with_reducible show wpAny _ _ (subscriptTail _ _ (Value.ref _) (Value.int 3 _)) _ _ _); k_dflt (refine' item4_3 ?I ?_ ?hs; (case I => ktr_rel); (case hs => with_unfolding_all rfl)); k_whole; intro t'; (try dsimp only)))
-- membership
local macro_rules | `(tactic| ktd_rel) => `(tactic| first | exact AreM.nil | (refine' AreM.cons ?a ?b; (case a => ktr_rel); (case b => ktd_rel)))
local macro_rules | `(tactic| walk_at "compareOp In ref ref") => `(tactic| (k_here; k_dflt (first
  | (refine' inListM ?l ?G ?J ?u ?_ ?_; (case l => exact News.isList (by k_asm) (by k_mem)); (case G => ktd_rel); (case J => ktr_rel); (case u => ktr_room))
  | (refine' inTupM ?l ?G ?J ?u ?_ ?_; (case l => exact News.isTup (by k_asm) (by k_mem)); (case G => ktd_rel); (case J => ktr_rel); (case u => ktr_room))); (all_goals (intro e'; (try simp only [List.mem_cons, List.not_mem_nil, or_false] at e'); try tb_start))))
-- a branch that the facts decide
local macro_rules | `(tactic| kwd_rel) => `(tactic| first | with_reducible assumption | (simp only [decide_eq_true_eq, decide_eq_false_iff_not, Bool.not_eq_true, Bool.not_eq_false, bne_iff_ne, beq_iff_eq, bne_eq_false_iff_eq, beq_eq_false_iff_ne, Bool.and_eq_true, Bool.or_eq_true, Bool.not_eq_true', Bool.not_eq_false', ne_eq]; omega) | omega)
local macro_rules | `(tactic| walk_at "ite") => `(tactic| (k_here; k_openite; k_dflt (first | (refine' ite_pos ?c ?_; (case c => kwd_rel)) | (refine' ite_neg ?c ?_; (case c => kwd_rel))); walk_say "CUT"))
-- a dict display by ints
local macro_rules | `(tactic| walk_at "eval Dict") => `(tactic| (k_here; k_dflt (refine' kdn_eval (knd := PySem.intKind _ _) ?F ?N ?b ?a ?l ?e ?n ?_; (case F => k_asm); (case N => k_asm); (case b => exact Top.nolimit (by k_asm)); (case a => rfl); (case l => rfl); (case e => exact List.cons_ne_nil _ _); (case n => exact Nat.le_of_ble_eq_true rfl)); intro d' h' o' F' N' l1 lo' hd'; (try k_lt l1)))
-- a written condition, ahead of all
local macro_rules | `(tactic| walk_at "ite") => `(tactic| (k_closed; k_dflt (first | refine ite_pos (by decide) ?_ | refine ite_neg (by decide) ?_)))
local macro_rules | `(tactic| walk_at "ite") => `(tactic| (k_here; first | with_reducible refine ite_tt ?_ | with_reducible refine ite_ff ?_))
-- a name of the frame's or of the top's, ahead of the kit's other lines
local macro_rules | `(tactic| walk_at "eval Name") => `(tactic| (k_here; (fail_if_success (with_reducible show wpAny _ _ (eval _ (compEnvC _ _ _ _)) _ _ _)); k_dflt (first | (refine' nameX_L ?F ?v ?_ ?a ?b; (case F => k_asm); (case a => rfl); (case b => rfl); (case v => rfl); k_whole) | (refine' nameX_K ?F ?X ?T ?e ?_ ?a ?b; (case F => k_asm); (case X => k_asm); (case T => k_asm); (case a => rfl); (case b => rfl); (case e => k_is); k_whole))))

local macro_rules | `(tactic| walk_at "call ref") => `(tactic| (k_here; (with_reducible show wpAny _ _ (call (Value.ref 111) _) _ _ _); k_dflt (refine' neg_ok ?X ?T ?C ?I ?_; (case X => k_in); (case T => exact Top.keeps (by assumption) (Fr.keep (by assumption))); (case C => exact Nice.less (by assumption) (by decide)); (case I => ktr_rel); intro r' h' tk' k' I'; (have F' := Fr.stay (by assumption) k'); (have N' := News.stay (by assumption) k'); (have P' := IsM.place F' N' I'); clear I'; (rcases P' with I0' | ⟨o', N2', hO'⟩)); (all_goals ((try dsimp only); (try dsimp only at k'); (try k_sweep)))))
local macro_rules | `(tactic| walk_at "call ref") => `(tactic| (k_here; (with_reducible show wpAny _ _ (call (Value.ref 126) _) _ _ _); k_dflt (refine' sign_ok3 ?X ?T ?C ?I ?S ?_ ?_ ?_; (case X => k_in); (case T => exact Top.keeps (by assumption) (Fr.keep (by assumption))); (case C => exact Nice.less (by assumption) (by decide)); (case I => ktr_rel); (case S => exact (Ok.facts (by assumption)).1)); (all_goals (intro e'; first | (exfalso; (rcases sign_zero (by assumption) e' with z | z) <;> (subst z; law_clear; simp_all; done)) | (intro h' tk' t' k'; (have F' := Fr.stay (by assumption) k'); (have N' := News.stay (by assumption) k'); (try dsimp only); (try dsimp only at k'); (try k_sweep))))))
local macro_rules | `(tactic| walk_at "call ref") => `(tactic| (k_here; (with_reducible show wpAny _ _ (call (Value.ref 227) _) _ _ _); k_dflt (refine' lsign_ok ?X ?T ?C ?I ?_; (case X => k_in); (case T => exact Top.keeps (by assumption) (Fr.keep (by assumption))); (case C => exact Nice.less (by assumption) (by decide)); (case I => ktr_rel); intro h' tk' t' k' lo' hi'; (have F' := Fr.stay (by assumption) k'); (have N' := News.stay (by assumption) k')); (try dsimp only); (try dsimp only at k'); (try k_sweep)))
local macro_rules | `(tactic| walk_at "call ref") => `(tactic| (k_here; (with_reducible show wpAny _ _ (call (Value.ref 220) _) _ _ _); k_dflt (refine' others_ok ?X ?T ?C ?_; (case X => k_in); (case T => exact Top.keeps (by assumption) (Fr.keep (by assumption))); (case C => exact Nice.less (by assumption) (by decide)); intro l' r1' r2' r3' h' tk' a1' a2' a3' a4' b1' b2' b3' b4' c1' c2' c3' c4' k' M'; (have F' := Fr.stay (by assumption) k'); (have N' := News.made (by assumption) (by assumption) k' M'); clear M'); (try dsimp only); (try dsimp only [List.cons_append, List.nil_append] at N'); (try dsimp only at k'); (try k_sweep)))

local macro_rules | `(tactic| walk_at "call ref") => `(tactic| (k_here; (with_reducible show wpAny _ _ (call (Value.ref 241) _) _ _ _); k_dflt (refine' infinite_ok ?X ?T ?C  ?_; (case X => k_in); (case T => exact Top.keeps (by assumption) (Fr.keep (by assumption))); (case C => exact Nice.less (by assumption) (by decide));  intro r' h' tk' a' b' c' d' k' M'; (have F' := Fr.stay (by assumption) k'); (have N' := News.made (by assumption) (by assumption) k' M'); clear M'); (try dsimp only); (try dsimp only [List.cons_append, List.nil_append] at N'); (try dsimp only at k'); (try k_sweep)))
local macro_rules | `(tactic| walk_at "call ref") => `(tactic| (k_here; (with_reducible show wpAny _ _ (call (Value.ref 234) _) _ _ _); k_dflt (refine' great_ok ?X ?T ?C ?I ?_ ?_; (case X => k_in); (case T => exact Top.keeps (by assumption) (Fr.keep (by assumption))); (case C => exact Nice.less (by assumption) (by decide)); (case I => ktr_rel)); (all_goals (intro e'; first | (tb_start; done) | (intro h' tk' k'; (have F' := Fr.stay (by assumption) k'); (have N' := News.stay (by assumption) k'); (try dsimp only); (try dsimp only at k'); (try k_sweep))))))

local macro_rules | `(tactic| walk_at "call ref") => `(tactic| (k_here; (with_reducible show wpAny _ _ (call (Value.ref 248) _) _ _ _); k_dflt (refine' sum_ok ?X ?T ?C ?I ?J ?_; (case X => k_in); (case T => exact Top.keeps (by assumption) (Fr.keep (by assumption))); (case C => exact Nice.less (by assumption) (by decide)); (case I => ktr_rel); (case J => ktr_rel); intro r' h' tk' k' I'; (have F' := Fr.stay (by assumption) k'); (have N' := News.stay (by assumption) k')); (try dsimp only); (try dsimp only at k'); (try k_sweep)))
local macro_rules | `(tactic| walk_at "call ref") => `(tactic| (k_here; (with_reducible show wpAny _ _ (call (Value.ref 255) _) _ _ _); k_dflt (refine' prod_ok ?X ?T ?C ?I ?J ?_; (case X => k_in); (case T => exact Top.keeps (by assumption) (Fr.keep (by assumption))); (case C => exact Nice.less (by assumption) (by decide)); (case I => ktr_rel); (case J => ktr_rel); intro r' h' tk' k' I'; (have F' := Fr.stay (by assumption) k'); (have N' := News.stay (by assumption) k')); (try dsimp only); (try dsimp only at k'); (try k_sweep)))
local macro_rules | `(tactic| walk_at "call ref") => `(tactic| (k_here; (with_reducible show wpAny _ _ (call (Value.ref 269) _) _ _ _); k_dflt (refine' pow_ok ?X ?T ?C ?I ?_; (case X => k_in); (case T => exact Top.keeps (by assumption) (Fr.keep (by assumption))); (case C => exact Nice.less (by assumption) (by decide)); (case I => ktr_rel); intro r' h' tk' k' I'; (have F' := Fr.stay (by assumption) k'); (have N' := News.stay (by assumption) k')); (try dsimp only); (try dsimp only at k'); (try k_sweep)))
local macro_rules | `(tactic| walk_at "call ref") => `(tactic| (k_here; (with_reducible show wpAny _ _ (call (Value.ref 262) _) _ _ _); k_dflt (refine' quot_ok ?X ?T ?C ?I ?J ?_ ?_; (case X => k_in); (case T => exact Top.keeps (by assumption) (Fr.keep (by assumption))); (case C => exact Nice.less (by assumption) (by decide)); (case I => ktr_rel); (case J => ktr_rel)); (all_goals (intro e'; first | (tb_start; done) | ((first | intro r' h' tk' k' I' | intro h' tk' k'); (have F' := Fr.stay (by assumption) k'); (have N' := News.stay (by assumption) k'); (try dsimp only); (try dsimp only at k'); (try k_sweep))))))

local macro_rules | `(tactic| walk_at "call ref") => `(tactic| (k_here; (with_reducible show wpAny _ _ (call (Value.ref 134) _) _ _ _); k_dflt (refine' add_ok ?X ?T ?C ?I ?J ?hb ?ho ?hs ?_; (case hb => first | exact bind_add4 (by k_in) | exact bindsAt_of (by k_is) (by first | exact BindsTo.of_eq rfl | exact binds_K (by k_in) rfl (by k_is) rfl rfl rfl)); (case X => k_in); (case T => exact Top.keeps (by assumption) (Fr.keep (by assumption))); (case C => exact Nice.less (by assumption) (by decide)); (case I => ktr_rel); (case J => ktr_rel); (case ho => kwd_rel); (case hs => first | exact Or.inl rfl | exact Or.inr rfl); intro r' h' tk' k' I' _; (have F' := Fr.stay (by assumption) k'); (have N' := News.stay (by assumption) k')); (try dsimp only); (try dsimp only at k'); (try k_sweep)))

section
variable {w : World} {A : Around} {E : Value → Shared → Prop} {s : Shared} {Q : Value → Shared → Prop}
  {p : Program} {loose : List Str} {mean : ExcName → Option Value} {mg mb : Str → Option Value} {x y : M4} {r q : Addr}


theorem addz_ok {tp ts : Tok} {rv : Value} {vs : List Value} (X : (hd.heap_39 w.params).In s.heap) (T : Top p loose mean mg mb s.heap) (C : Nice 2 A) (J : IsM s.heap q y)
   (hb : BindsAt (hd.heap_39 w.params) 134 s vs [(Str.ofString "s", .ref 56), (Str.ofString "t", .ref q), (Str.ofString "prec", .int 1 tp), (Str.ofString "rnd", rv), (Str.ofString "_sub", .int 0 ts)])
   (sy1 : y.2.1 = 0) 
   (h : ∀ h' tk', s.heap.StaysIn h' → Q (.ref q) ⟨h', s.gens, s.drawn, tk', s.os⟩) : wpAny (model P0 w) A (call (.ref 134) vs) Q E s := by
  have B : Binds [(Str.ofString "s", .ref 56), (Str.ofString "t", .ref q), (Str.ofString "prec", .int 1 tp), (Str.ofString "rnd", rv), (Str.ofString "_sub", .int 0 ts)] := trivial
  kwd_inv
  kwd_less
  all_goals exact h _ _ (Fr.keep (by assumption))

local macro_rules | `(tactic| walk_at "call ref") => `(tactic| (k_here; (with_reducible show wpAny _ _ (call (Value.ref 134) _) _ _ _); k_dflt (refine' add_ok ?X ?T ?C ?I ?J ?hb ?ho ?hs ?_; (case hb => exact bind_add3 (by k_in)); (case X => k_in); (case T => exact Top.keeps (by assumption) (Fr.keep (by assumption))); (case C => exact Nice.less (by assumption) (by decide)); (case I => ktr_rel); (case J => ktr_rel); (case ho => exact Or.inl ⟨by first | with_reducible assumption | omega, by first | with_reducible assumption | omega⟩); (case hs => exact Or.inl rfl); intro r' h' tk' k' I' D'; (have F' := Fr.stay (by assumption) k'); (have N' := News.stay (by assumption) k'); clear I'; (rcases D' rfl with ⟨e1', e2'⟩ | ⟨e1', e2'⟩ | ⟨e1', e2'⟩) <;> subst e1'); (all_goals ((try dsimp only); (try dsimp only at k'); (try k_sweep)))))
local macro_rules | `(tactic| walk_at "call ref") => `(tactic| (k_here; (with_reducible show wpAny _ _ (call (Value.ref 134) [Value.ref 56, _, _]) _ _ _); k_dflt (refine' addz_ok ?X ?T ?C ?J ?hb ?ho ?_; (case hb => exact bind_add3 (by k_in)); (case X => k_in); (case T => exact Top.keeps (by assumption) (Fr.keep (by assumption))); (case C => exact Nice.less (by assumption) (by decide)); (case J => ktr_rel); (case ho => first | with_reducible assumption | omega); intro h' tk' k'; (have F' := Fr.stay (by assumption) k'); (have N' := News.stay (by assumption) k')); (try dsimp only); (try dsimp only at k'); (try k_sweep)))

section
variable {prog : Program} {K : Frag}
theorem enterN {h₀ : Heap} {news : List (Addr × Obj)} {name qual : Str} {params : Arguments} {body : List Stmt} {scope : Scope} {dV kV doc pm cdv ct oc : Value} {an od : Option Addr} {osl : Array (Option Value)} {f : Addr} {vs : List Value} {binds : List (Str × Value)}
    {n : Nat} (hB0 : Binds binds) (X : K.In h₀) (T : TopRead p loose mg mb h₀) (C : Nice (n + 1) A) (hst : h₀.StaysIn s.heap) (hz : h₀.objs.size ≤ s.heap.objs.size) (hN : ∀ p ∈ news, s.heap.get? p.1 = some p.2 ∧ h₀.get? p.1 = none)
    (ho : K.lookup f = some ⟨oc, od, .func (fnOf name qual params body scope dV kV doc pm an cdv ct), osl⟩) (hcd : codeIn K cdv qual = true)
    (hbind : BindsTo s (fnOf name qual params body scope dV kV doc pm an cdv ct) ⟨vs, []⟩ binds) (hloc : ∀ y ∈ binds, scope.names.lookup y.1 = some .local)
    (h : ∀ L h₁ tk, Fr h₀ L h₁ (fun y => binds.reverse.lookup y) → News h₀ L h₁ news → Nice n (A.deeper (envOf qual scope L f cdv)) →
      wpAny (model prog w) (A.deeper (envOf qual scope L f cdv)) (execs body (envOf qual scope L f cdv))
        (fun fl s' => Q (match fl with | .ret v => v | _ => .none) s') (fun _ _ => False)
        ⟨h₁, s.gens, s.drawn, tk, s.os⟩)
    (hco : scope.isCoroutine = false := by rfl) (hgen : scope.isGenerator = false := by rfl) (hk : scope.kind = .function := by rfl)
    (hcell : ∀ x ∈ scope.names, x.2 ≠ .cell := by decide) : wpAny (model prog w) A (call (.ref f) vs) Q E s := by
  have X' := X.keeps hst
  refine wpAny_call (codeAny_call_def (fd := fnOf name qual params body scope dV kV doc pm an cdv ct) (body := body) (binds := binds) (by have := C.dep; omega) (X' _ _ ho) rfl (T.nolimit.keeps hst) (codeRec_of X' hcd) rfl hbind hcell hloc (fun h₁ hns hk₁ => ?_) hco hgen hk)
  exact wpAny_mono (h _ h₁ _ ⟨hns, fun b o e => hk₁ b o (hst b o e), hz⟩ (fun p hp => ⟨hk₁ _ _ (hN p hp).1, Nat.ne_of_lt (Heap.lt_size (hN p hp).1), (hN p hp).2⟩) C.deeper) (fun _ _ q => q) (fun _ _ q => q.elim)
theorem stays_hide {h h' : Heap} {l L : Addr} {o : Obj} {m : Str → Option Value} {news : List (Addr × Obj)} (hl : h.get? l = some o) (F : Fr (hideAll h [l]) L h' m) (N : News (hideAll h [l]) L h' news) (hm : (l, o) ∈ news) : h.StaysIn h' := fun b ob e => by
  by_cases q : b = l
  · subst q; rw [hl] at e; cases e; exact N.get hm
  · exact F.keep b ob (hideAll_get _ e (by simpa using q))
end
local macro_rules | `(tactic| walk_at "pyIter ref") => `(tactic| (k_here; (with_reducible show wpAny _ _ (pyIter (Value.ref _)) (fun it s₂ => LoopAtV _ _ _ _ _ _ _ _ _ it s₂) _ _); k_dflt (refine' iter_listUnr ?hh ?F ?N ?m ?c ?d ?_; (case hh => exact Nice.hh (by assumption)); (case F => k_asm); (case N => k_asm); (case m => k_mem); (case c => rfl); (case d => rfl); intro i' l1); (try k_lt l1)))
local macro_rules | `(tactic| kwd_inv) => `(tactic| (
  refine' enterN ?B ?X ?T ?C ?st ?hz ?hN ?ho ?hcd ?hbind ?hloc ?_ ?c2 ?c3 ?c4 ?c5
  (case B => assumption)
  (case X => assumption)
  (case T => exact topRead_of (by assumption))
  (case C => assumption)
  (case st => assumption)
  (case hz => assumption)
  (case hN => assumption)
  (case ho => k_is)
  (case hcd => k_is)
  (case hbind => first | exact BindsAt.at (by assumption) (by k_is) | exact BindsTo.of_eq rfl | exact binds_K (Frag.In.keeps (by assumption) (by assumption)) rfl (by k_is) rfl rfl rfl)
  (case hloc => exact locs rfl)
  (case c2 => exact rfl)
  (case c3 => exact rfl)
  (case c4 => exact rfl)
  (case c5 => decide)
  intro L' h' tk' F' N' C'
  (try dsimp only [List.reverse_cons, List.reverse_nil, List.nil_append, List.cons_append])
  (try dsimp only [List.reverse_cons, List.reverse_nil, List.nil_append, List.cons_append] at F')
  (try k_fold)))

theorem truthyM {prog : Program} {Q : Bool → Shared → Prop} (I : IsM s.heap r x) (h : ∀ tk, Q true ⟨s.heap, s.gens, s.drawn, tk, s.os⟩) : wpAny (model prog w) A (truthy (.ref r)) Q E s := by
  obtain ⟨_, _, _, _, T⟩ := I
  exact truthy_tuple T (by show ((4 : Nat) : Int) < 2 ^ 63; decide) (h _)
local macro_rules | `(tactic| walk_at "truthy ref") => `(tactic| (k_here; k_dflt (refine' truthyM ?I ?_; (case I => ktr_rel); intro tk'); (try dsimp only)))

section
variable {h₀ : Heap} {L : Addr} {m m' : Str → Option Value} {news : List (Addr × Obj)}
abbrev joinMap (m : Str → Option Value) (a b c d : Int) (ta tb tc td : Tok) : Str → Option Value := fun y => if y = Str.ofString "exp" then some (.int a ta) else if y = Str.ofString "man" then some (.int b tb) else if y = Str.ofString "delta" then some (.int c tc) else if y = Str.ofString "xman" then some (.int d td) else m y
/-- what the block of a finite number leaves -/
def JoinP (h₀ : Heap) (L : Addr) (m : Str → Option Value) (news : List (Addr × Obj)) (s s' : Shared) : Prop :=
  ∃ h' tk a b c d ta tb tc td, s' = ⟨h', s.gens, s.drawn, tk, s.os⟩ ∧ Fr h₀ L h' (joinMap m a b c d ta tb tc td) ∧ News h₀ L h' news
theorem JoinP.mk' {h' : Heap} {tk : Nat} {a b c d : Int} {ta tb tc td : Tok} (F : Fr h₀ L h' m') (N : News h₀ L h' news) (ha : m' (Str.ofString "exp") = some (.int a ta)) (hb : m' (Str.ofString "man") = some (.int b tb))
    (hc : m' (Str.ofString "delta") = some (.int c tc)) (hd : m' (Str.ofString "xman") = some (.int d td))
    (hr : ∀ y, ¬ y = Str.ofString "exp" → ¬ y = Str.ofString "man" → ¬ y = Str.ofString "delta" → ¬ y = Str.ofString "xman" → m' y = m y) : JoinP h₀ L m news s ⟨h', s.gens, s.drawn, tk, s.os⟩ := by
  refine ⟨h', tk, a, b, c, d, ta, tb, tc, td, rfl, ?_, N⟩
  have e : m' = joinMap m a b c d ta tb tc td := by
    funext y
    unfold joinMap
    by_cases h1 : y = Str.ofString "exp"
    · rw [if_pos h1, h1]; exact ha
    rw [if_neg h1]
    by_cases h2 : y = Str.ofString "man"
    · rw [if_pos h2, h2]; exact hb
    rw [if_neg h2]
    by_cases h3 : y = Str.ofString "delta"
    · rw [if_pos h3, h3]; exact hc
    rw [if_neg h3]
    by_cases h4 : y = Str.ofString "xman"
    · rw [if_pos h4, h4]; exact hd
    rw [if_neg h4]
    exact hr y h1 h2 h3 h4
  exact e ▸ F
theorem tail1 {h : Heap} {e : Addr × Obj} (N : News h₀ L h (e :: news)) : News h₀ L h news := fun p hp => N p (.tail _ hp)
theorem joinB {M : Model} {env : Env} {body : List Stmt} {Q : Flow → Shared → Prop} (F : Fr h₀ L s.heap m) (N : News h₀ L s.heap news)
    (h1 : wpAny M A (execs body env) (fun fl s' => match fl with | .next => JoinP h₀ L m news s s' | _ => False) (fun _ _ => False) s)
    (h2 : ∀ h' tk a b c d ta tb tc td, Fr h₀ L h' (joinMap m a b c d ta tb tc td) → News h₀ L h' news → Q .next ⟨h', s.gens, s.drawn, tk, s.os⟩) : wpAny M A (execs body env) Q E s := by
  refine wpAny_mono h1 (fun fl s' h => ?_) fun _ _ h => h.elim
  cases fl with
  | next =>
    obtain ⟨h', tk, a, b, c, d, ta, tb, tc, td, rfl, F', N'⟩ := h
    exact h2 _ _ _ _ _ _ _ _ _ _ F' N'
  | _ => exact h.elim
end
local macro_rules | `(tactic| walk_at "JoinP") => `(tactic| (k_dflt (refine' JoinP.mk' ?F ?N ?a ?b ?c ?d ?r; (case F => k_asm); (case N => first | k_asm | exact tail1 (by k_asm)); (case a => rfl); (case b => rfl); (case c => rfl); (case d => rfl); (case r => intro y h1 h2 h3 h4; simp only [h1, h2, h3, h4, if_false]))))
local macro_rules | `(tactic| walk_at "execs cons") => `(tactic| (k_here; (with_reducible show wpAny _ _ (execs (Stmt.If (Expr.BoolOp _ (Expr.Name (Str.ofString "xsign") _ :: _) _) _ _ _ :: _) _) _ _ _); k_dflt (refine' joinB ?F ?N ?g ?k; (case F => k_asm); (case N => k_asm)); (case' g => ((try k_fold); refine wpAny_execs_cons ?_)); (case' k => (intro h' tk' a' b' c' d' ta' tb' tc' td' F' N'; (try dsimp only); (try k_sweep)))))

theorem Ok.fin {x : M4} (h : 0 < x.2.1) : x ≠ inf ∧ x ≠ ninf ∧ x ≠ nan ∧ x ≠ zero := by
  refine ⟨?_, ?_, ?_, ?_⟩ <;> (rintro rfl; exact absurd h (by decide))
theorem addM_sum (ox : Ok x) (oy : Ok y) (h : spM x ∨ spM y) : addM x y y = sumM x y := by
  rcases ox with rfl | rfl | rfl | rfl | hx <;> rcases oy with rfl | rfl | rfl | rfl | hy
  all_goals first
    | decide
    | (obtain ⟨n1, n2, n3, n4⟩ := Ok.fin hx.2.1; have e : ¬ x.2.1 = 0 := by omega
       simp [addM, sumM, grM, e, n1, n2, n3, n4]; done)
    | (obtain ⟨n1, n2, n3, n4⟩ := Ok.fin hy.2.1; have e : ¬ y.2.1 = 0 := by omega
       simp [addM, sumM, grM, e, n1, n2, n3, n4]; done)
    | (exfalso; unfold spM at h; omega)
    | (exfalso; unfold spM at h; simp at h; done)
theorem sum_x (ox : Ok x) (oy : Ok y) (h : x.2.1 = 0) (h2 : x.2.2.1 ≠ 0) (h3 : y.2.1 ≠ 0 ∨ y.2.2.1 = 0) : x = sumM x y := by
  rw [← addM_sum ox oy (.inl ⟨h, h2⟩)]
  simp [addM, h, h2, h3]
theorem sum_y (ox : Ok x) (oy : Ok y) (h : y.2.1 = 0 ∧ y.2.2.1 ≠ 0) (h3 : x.2.1 ≠ 0 ∨ x.2.2.1 = 0) : y = sumM x y := by
  rw [← addM_sum ox oy (.inr h)]
  have : ¬ (x.2.1 = 0 ∧ x.2.2.1 ≠ 0) := by omega
  simp only [addM, if_neg this]
theorem msum_ok {l : Addr} {pr : Int} {tp : Tok} {rv : Value} (hl : s.heap.get? l = some (listOf #[.ref r, .ref q] 0)) (X : (hd.heap_39 w.params).In (hideAll s.heap [l])) (T : Top p loose mean mg mb (hideAll s.heap [l])) (C : Nice 3 A) (I : IsM (hideAll s.heap [l]) r x) (J : IsM (hideAll s.heap [l]) q y)
   (ox : Ok x) (oy : Ok y) (hodd : spM x ∨ spM y) (hp1 : 1 ≤ pr) (hp2 : pr ≤ 60)
   (h : ∀ r' h' tk', s.heap.StaysIn h' → IsM h' r' (sumM x y) → Q (.ref r') ⟨h', s.gens, s.drawn, tk', s.os⟩) : wpAny (model P0 w) A (call (.ref 150) [.ref l, .int pr tp, rv]) Q E s := by
  have B : Binds [(Str.ofString "xs", .ref l), (Str.ofString "prec", .int pr tp), (Str.ofString "rnd", rv), (Str.ofString "absolute", .bool false)] := trivial
  have st : (hideAll s.heap [l]).StaysIn s.heap := fun b o e => of_hideAll _ e
  have hz : (hideAll s.heap [l]).objs.size ≤ s.heap.objs.size := Nat.le_of_eq (hideAll_size _ _)
  have hN : ∀ p ∈ [(l, listOf #[.ref r, .ref q] 0)], s.heap.get? p.1 = some p.2 ∧ (hideAll s.heap [l]).get? p.1 = none := fun p hp => by
    rcases List.mem_singleton.mp hp with rfl
    exact ⟨hl, hideAll_none _ (.head _)⟩
  have fx := ox.facts
  have fy := oy.facts
  unfold spM at hodd
  obtain ⟨fx1, fx2, fx3, fx4, fx5⟩ := fx
  obtain ⟨fy1, fy2, fy3, fy4, fy5⟩ := fy
  kwd_inv
  kwd_less
  all_goals refine h _ _ _ (stays_hide hl (by assumption) (by assumption) (by k_mem)) (IsM.cast (by ktr_rel) ?_)
  all_goals first
    | exact sum_y ox oy (by omega) (by omega)
    | exact sum_x ox oy (by omega) (by omega) (by omega)
    | (refine Eq.trans (Eq.symm ?_) (addM_sum ox oy (by unfold spM; omega)); assumption)
end

end
section
local macro_rules | `(tactic| k_mem) => `(tactic| with_reducible assumption)
-- a tuple's fact
local macro_rules | `(tactic| ktr_rel) => `(tactic| first
  | with_reducible assumption
  | exact IsM.of_tup (Fr.tup (by k_asm) (by with_reducible assumption))
  | exact IsM.stay (Fr.keep (by k_asm)) (by with_reducible assumption)
  | exact IsM.of_news (by k_asm) (by k_mem)
  | exact IsM.of_newsO (by k_asm) (by k_mem) (by with_reducible assumption)
  | exact inf_at (by k_in)
  | exact ninf_at (by k_in)
  | exact nan_at (by k_in)
  | exact zero_at (by k_in)
  | exact one_at (by k_in)
  | exact IsM.stay (by with_reducible assumption) (by with_reducible assumption))
-- room
local macro_rules | `(tactic| ktr_room) => `(tactic| first | exact Nice.room (by assumption) | exact Nice.room1 (by assumption))
-- an absurd way
local macro_rules | `(tactic| ktr_unf) => `(tactic| first | exact absurd rfl (by assumption) | skip)
-- entering a def
local macro_rules | `(tactic| kwd_inv) => `(tactic| (
  refine' enter ?B ?X ?T ?C ?ho ?hcd ?hbind ?hloc ?_ ?c2 ?c3 ?c4 ?c5
  (case B => assumption)
  (case X => assumption)
  (case T => exact topRead_of (by assumption))
  (case C => assumption)
  (case ho => k_is)
  (case hcd => k_is)
  (case hbind => first | exact BindsAt.at (by assumption) (by k_is) | exact BindsTo.of_eq rfl | exact binds_K (by assumption) rfl (by k_is) rfl rfl rfl)
  (case hloc => exact locs rfl)
  (case c2 => exact rfl)
  (case c3 => exact rfl)
  (case c4 => exact rfl)
  (case c5 => decide)
  intro L' h' tk' F' N' C'
  (try dsimp only [List.reverse_cons, List.reverse_nil, List.nil_append, List.cons_append])
  (try dsimp only [List.reverse_cons, List.reverse_nil, List.nil_append, List.cons_append] at F')
  (try k_fold)))
-- a store
local macro_rules | `(tactic| walk_at "storeName") => `(tactic| (k_here; k_dflt (refine' storeT ?F ?N ?_ ?a ?b; (case F => k_asm); (case N => k_asm); (case a => rfl); (case b => rfl); k_whole; intro h' tk' F' N'); (try dsimp only); (try k_sweep)))
-- a new tuple of four ints
local macro_rules | `(tactic| walk_at "newTuple") => `(tactic| (k_here; k_dflt (refine' newTup4 ?F ?N ?_; (case F => k_asm); (case N => k_asm); intro D' h' ta' tb' tc' td' F' N' k'); (try dsimp only); (try dsimp only at k'); (try k_sweep)))
-- comparisons
local macro_rules | `(tactic| walk_at "compareOp Eq ref ref") => `(tactic| (k_here; k_dflt (refine' eqM ?I ?J ?u ?_ ?_; (case I => ktr_rel); (case J => ktr_rel); (case u => ktr_room)); (all_goals (intro e'; try tb_start))))
local macro_rules | `(tactic| walk_at "compareOp NotEq ref ref") => `(tactic| (k_here; k_dflt (refine' neM ?I ?J ?u ?_ ?_; (case I => ktr_rel); (case J => ktr_rel); (case u => ktr_room)); (all_goals (intro e'; try tb_start))))
local macro_rules | `(tactic| tb_start) => `(tactic| first | exact absurd rfl (by assumption) | (exfalso; omega) | (exfalso; law_clear; simp_all; done))
-- unpacking
local macro_rules | `(tactic| walk_at "assign Tuple") => `(tactic| (k_here; (with_reducible show wpAny _ _ (assign (Expr.Tuple _ _ _) _ (Value.ref _)) _ _ _); k_dflt (refine' unpackM ?F ?N ?I ?C ?n ?s ?_; (case F => k_asm); (case N => k_asm); (case I => ktr_rel); (case C => assumption); (case n => exact rfl); (case s => exact rfl); intro h' ta' tb' tc' td' F' N'); (try dsimp only); (try k_sweep)))
-- the walk
local macro_rules | `(tactic| kwd_less) => `(tactic| (w_top on; (repeat' (first | (k_unmd; k_unfold; (try dsimp only)) | walk1 | (dsimp only; first | (k_unmd; k_unfold; (try dsimp only)) | walk1) | fail "no step")); (all_goals (try dsimp only))))
local macro_rules | `(tactic| walk_at "assign Tuple") => `(tactic| (k_here; (with_reducible show wpAny _ _ (assign (Expr.Tuple [_, _] _ _) _ (Value.ref _)) _ _ _); k_dflt (refine' unpackN_ ?F ?N ?I ?C ?n ?s ?_; (case F => k_asm); (case N => k_asm); (case I => exact News.isTup (by k_asm) (by k_mem)); (case C => exact Nice.hh (by assumption)); (case n => exact rfl); (case s => exact rfl); intro h' F' N'); (try dsimp only); (try k_sweep)))
local macro_rules | `(tactic| walk_at "unpackItems ref") => `(tactic| (k_here; k_dflt (refine' unpackItemsN_ ?F ?N ?I ?C ?n ?_; (case F => k_asm); (case N => k_asm); (case I => exact News.isTup (by k_asm) (by k_mem)); (case C => exact Nice.hh (by assumption)); (case n => exact rfl); intro h' F' N'); (try dsimp only); (try k_sweep)))
-- an item of a tuple of four
local macro_rules | `(tactic| walk_at "subscriptTail") => `(tactic| (k_here; (with_reducible show wpAny _ _ (subscriptTail _ _ (Value.ref _) (Value.int 0 _)) _ _ _); k_dflt (refine' item4_0 ?I ?_ ?hs; (case I => ktr_rel); (case hs => with_unfolding_all rfl)); k_whole; intro t'; (try dsimp only)))
local macro_rules | `(tactic| walk_at "subscriptTail") => `(tactic| (k_here; (with_reducible show wpAny _ _ (subscriptTail _ _ (Value.ref _) (Value.int 1 _)) _ _ _); k_dflt (refine' item4_1 ?I ?_ ?hs; (case I => ktr_rel); (case hs => with_unfolding_all rfl)); k_whole; intro t'; (try dsimp only)))
local macro_rules | `(tactic| walk_at "subscriptTail") => `(tactic| (k_here; (with_reducible show wpAny _ _ (subscriptTail _ _ (Value.ref _) (Value.int 2 _)) _ _ _); k_dflt (refine' item4_2 ?I ?_ ?hs; (case I => ktr_rel); (case hs => with_unfolding_all rfl)); k_whole; intro t'; (try dsimp only)))
local macro_rules | `(tactic| walk_at "subscriptTail") => `(tactic| (k_here; (with_reducible show wpAny _ _ (subscriptTail _ _ (Value.ref _) (Value.int 3 _)) _ _ _); k_dflt (refine' item4_3 ?I ?_ ?hs; (case I => ktr_rel); (case hs => with_unfolding_all rfl)); k_whole; intro t'; (try dsimp only)))
-- membership
local macro_rules | `(tactic| ktd_rel) => `(tactic| first | exact AreM.nil | (refine' AreM.cons ?a ?b; (case a => ktr_rel); (case b => ktd_rel)))
local macro_rules | `(tactic| walk_at "compareOp In ref ref") => `(tactic| (k_here; k_dflt (first
  | (refine' inListM ?l ?G ?J ?u ?_ ?_; (case l => exact News.isList (by k_asm) (by k_mem)); (case G => ktd_rel); (case J => ktr_rel); (case u => ktr_room))
  | (refine' inTupM ?l ?G ?J ?u ?_ ?_; (case l => exact News.isTup (by k_asm) (by k_mem)); (case G => ktd_rel); (case J => ktr_rel); (case u => ktr_room))); (all_goals (intro e'; (try simp only [List.mem_cons, List.not_mem_nil, or_false] at e'); try tb_start))))
-- a branch that the facts decide
local macro_rules | `(tactic| kwd_rel) => `(tactic| first | with_reducible assumption | (simp only [decide_eq_true_eq, decide_eq_false_iff_not, Bool.not_eq_true, Bool.not_eq_false, bne_iff_ne, beq_iff_eq, bne_eq_false_iff_eq, beq_eq_false_iff_ne, Bool.and_eq_true, Bool.or_eq_true, Bool.not_eq_true', Bool.not_eq_false', ne_eq]; omega) | omega)
local macro_rules | `(tactic| walk_at "ite") => `(tactic| (k_here; k_openite; k_dflt (first | (refine' ite_pos ?c ?_; (case c => kwd_rel)) | (refine' ite_neg ?c ?_; (case c => kwd_rel))); walk_say "CUT"))
-- a dict display by ints
local macro_rules | `(tactic| walk_at "eval Dict") => `(tactic| (k_here; k_dflt (refine' kdn_eval (knd := PySem.intKind _ _) ?F ?N ?b ?a ?l ?e ?n ?_; (case F => k_asm); (case N => k_asm); (case b => exact Top.nolimit (by k_asm)); (case a => rfl); (case l => rfl); (case e => exact List.cons_ne_nil _ _); (case n => exact Nat.le_of_ble_eq_true rfl)); intro d' h' o' F' N' l1 lo' hd'; (try k_lt l1)))
-- a written condition, ahead of all
local macro_rules | `(tactic| walk_at "ite") => `(tactic| (k_closed; k_dflt (first | refine ite_pos (by decide) ?_ | refine ite_neg (by decide) ?_)))
local macro_rules | `(tactic| walk_at "ite") => `(tactic| (k_here; first | with_reducible refine ite_tt ?_ | with_reducible refine ite_ff ?_))
-- a name of the frame's or of the top's, ahead of the kit's other lines
local macro_rules | `(tactic| walk_at "eval Name") => `(tactic| (k_here; (fail_if_success (with_reducible show wpAny _ _ (eval _ (compEnvC _ _ _ _)) _ _ _)); k_dflt (first | (refine' nameX_L ?F ?v ?_ ?a ?b; (case F => k_asm); (case a => rfl); (case b => rfl); (case v => rfl); k_whole) | (refine' nameX_K ?F ?X ?T ?e ?_ ?a ?b; (case F => k_asm); (case X => k_asm); (case T => k_asm); (case a => rfl); (case b => rfl); (case e => k_is); k_whole))))

local macro_rules | `(tactic| walk_at "call ref") => `(tactic| (k_here; (with_reducible show wpAny _ _ (call (Value.ref 111) _) _ _ _); k_dflt (refine' neg_ok ?X ?T ?C ?I ?_; (case X => k_in); (case T => exact Top.keeps (by assumption) (Fr.keep (by assumption))); (case C => exact Nice.less (by assumption) (by decide)); (case I => ktr_rel); intro r' h' tk' k' I'; (have F' := Fr.stay (by assumption) k'); (have N' := News.stay (by assumption) k'); (have P' := IsM.place F' N' I'); clear I'; (rcases P' with I0' | ⟨o', N2', hO'⟩)); (all_goals ((try dsimp only); (try dsimp only at k'); (try k_sweep)))))
local macro_rules | `(tactic| walk_at "call ref") => `(tactic| (k_here; (with_reducible show wpAny _ _ (call (Value.ref 126) _) _ _ _); k_dflt (refine' sign_ok3 ?X ?T ?C ?I ?S ?_ ?_ ?_; (case X => k_in); (case T => exact Top.keeps (by assumption) (Fr.keep (by assumption))); (case C => exact Nice.less (by assumption) (by decide)); (case I => ktr_rel); (case S => exact (Ok.facts (by assumption)).1)); (all_goals (intro e'; first | (exfalso; (rcases sign_zero (by assumption) e' with z | z) <;> (subst z; law_clear; simp_all; done)) | (intro h' tk' t' k'; (have F' := Fr.stay (by assumption) k'); (have N' := News.stay (by assumption) k'); (try dsimp only); (try dsimp only at k'); (try k_sweep))))))
local macro_rules | `(tactic| walk_at "call ref") => `(tactic| (k_here; (with_reducible show wpAny _ _ (call (Value.ref 227) _) _ _ _); k_dflt (refine' lsign_ok ?X ?T ?C ?I ?_; (case X => k_in); (case T => exact Top.keeps (by assumption) (Fr.keep (by assumption))); (case C => exact Nice.less (by assumption) (by decide)); (case I => ktr_rel); intro h' tk' t' k' lo' hi'; (have F' := Fr.stay (by assumption) k'); (have N' := News.stay (by assumption) k')); (try dsimp only); (try dsimp only at k'); (try k_sweep)))
local macro_rules | `(tactic| walk_at "call ref") => `(tactic| (k_here; (with_reducible show wpAny _ _ (call (Value.ref 220) _) _ _ _); k_dflt (refine' others_ok ?X ?T ?C ?_; (case X => k_in); (case T => exact Top.keeps (by assumption) (Fr.keep (by assumption))); (case C => exact Nice.less (by assumption) (by decide)); intro l' r1' r2' r3' h' tk' a1' a2' a3' a4' b1' b2' b3' b4' c1' c2' c3' c4' k' M'; (have F' := Fr.stay (by assumption) k'); (have N' := News.made (by assumption) (by assumption) k' M'); clear M'); (try dsimp only); (try dsimp only [List.cons_append, List.nil_append] at N'); (try dsimp only at k'); (try k_sweep)))

local macro_rules | `(tactic| walk_at "call ref") => `(tactic| (k_here; (with_reducible show wpAny _ _ (call (Value.ref 241) _) _ _ _); k_dflt (refine' infinite_ok ?X ?T ?C  ?_; (case X => k_in); (case T => exact Top.keeps (by assumption) (Fr.keep (by assumption))); (case C => exact Nice.less (by assumption) (by decide));  intro r' h' tk' a' b' c' d' k' M'; (have F' := Fr.stay (by assumption) k'); (have N' := News.made (by assumption) (by assumption) k' M'); clear M'); (try dsimp only); (try dsimp only [List.cons_append, List.nil_append] at N'); (try dsimp only at k'); (try k_sweep)))
local macro_rules | `(tactic| walk_at "call ref") => `(tactic| (k_here; (with_reducible show wpAny _ _ (call (Value.ref 234) _) _ _ _); k_dflt (refine' great_ok ?X ?T ?C ?I ?_ ?_; (case X => k_in); (case T => exact Top.keeps (by assumption) (Fr.keep (by assumption))); (case C => exact Nice.less (by assumption) (by decide)); (case I => ktr_rel)); (all_goals (intro e'; first | (tb_start; done) | (intro h' tk' k'; (have F' := Fr.stay (by assumption) k'); (have N' := News.stay (by assumption) k'); (try dsimp only); (try dsimp only at k'); (try k_sweep))))))

local macro_rules | `(tactic| walk_at "call ref") => `(tactic| (k_here; (with_reducible show wpAny _ _ (call (Value.ref 248) _) _ _ _); k_dflt (refine' sum_ok ?X ?T ?C ?I ?J ?_; (case X => k_in); (case T => exact Top.keeps (by assumption) (Fr.keep (by assumption))); (case C => exact Nice.less (by assumption) (by decide)); (case I => ktr_rel); (case J => ktr_rel); intro r' h' tk' k' I'; (have F' := Fr.stay (by assumption) k'); (have N' := News.stay (by assumption) k')); (try dsimp only); (try dsimp only at k'); (try k_sweep)))
local macro_rules | `(tactic| walk_at "call ref") => `(tactic| (k_here; (with_reducible show wpAny _ _ (call (Value.ref 255) _) _ _ _); k_dflt (refine' prod_ok ?X ?T ?C ?I ?J ?_; (case X => k_in); (case T => exact Top.keeps (by assumption) (Fr.keep (by assumption))); (case C => exact Nice.less (by assumption) (by decide)); (case I => ktr_rel); (case J => ktr_rel); intro r' h' tk' k' I'; (have F' := Fr.stay (by assumption) k'); (have N' := News.stay (by assumption) k')); (try dsimp only); (try dsimp only at k'); (try k_sweep)))
local macro_rules | `(tactic| walk_at "call ref") => `(tactic| (k_here; (with_reducible show wpAny _ _ (call (Value.ref 269) _) _ _ _); k_dflt (refine' pow_ok ?X ?T ?C ?I ?_; (case X => k_in); (case T => exact Top.keeps (by assumption) (Fr.keep (by assumption))); (case C => exact Nice.less (by assumption) (by decide)); (case I => ktr_rel); intro r' h' tk' k' I'; (have F' := Fr.stay (by assumption) k'); (have N' := News.stay (by assumption) k')); (try dsimp only); (try dsimp only at k'); (try k_sweep)))
local macro_rules | `(tactic| walk_at "call ref") => `(tactic| (k_here; (with_reducible show wpAny _ _ (call (Value.ref 262) _) _ _ _); k_dflt (refine' quot_ok ?X ?T ?C ?I ?J ?_ ?_; (case X => k_in); (case T => exact Top.keeps (by assumption) (Fr.keep (by assumption))); (case C => exact Nice.less (by assumption) (by decide)); (case I => ktr_rel); (case J => ktr_rel)); (all_goals (intro e'; first | (tb_start; done) | ((first | intro r' h' tk' k' I' | intro h' tk' k'); (have F' := Fr.stay (by assumption) k'); (have N' := News.stay (by assumption) k'); (try dsimp only); (try dsimp only at k'); (try k_sweep))))))

local macro_rules | `(tactic| walk_at "call ref") => `(tactic| (k_here; (with_reducible show wpAny _ _ (call (Value.ref 134) _) _ _ _); k_dflt (refine' add_ok ?X ?T ?C ?I ?J ?hb ?ho ?hs ?_; (case hb => first | exact bind_add4 (by k_in) | exact bindsAt_of (by k_is) (by first | exact BindsTo.of_eq rfl | exact binds_K (by k_in) rfl (by k_is) rfl rfl rfl)); (case X => k_in); (case T => exact Top.keeps (by assumption) (Fr.keep (by assumption))); (case C => exact Nice.less (by assumption) (by decide)); (case I => ktr_rel); (case J => ktr_rel); (case ho => kwd_rel); (case hs => first | exact Or.inl rfl | exact Or.inr rfl); intro r' h' tk' k' I' _; (have F' := Fr.stay (by assumption) k'); (have N' := News.stay (by assumption) k')); (try dsimp only); (try dsimp only at k'); (try k_sweep)))

local macro_rules | `(tactic| walk_at "call ref") => `(tactic| (k_here; (with_reducible show wpAny _ _ (call (Value.ref 142) _) _ _ _); k_dflt (refine' sub_ok ?X ?T ?C ?I ?J ?ho ?_; (case I => ktr_rel); (case J => ktr_rel); (case ho => kwd_rel); (case X => k_in); (case T => exact Top.keeps (by assumption) (Fr.keep (by assumption))); (case C => exact Nice.less (by assumption) (by decide)); intro r' h' tk' k' I'; (have F' := Fr.stay (by assumption) k'); (have N' := News.stay (by assumption) k')); (try dsimp only); (try dsimp only at k'); (try k_sweep)))
local macro_rules | `(tactic| walk_at "call ref") => `(tactic| (k_here; (with_reducible show wpAny _ _ (call (Value.ref 158) _) _ _ _); k_dflt (refine' mul_ok ?X ?T ?C ?I ?J ?hb ?ox ?oy ?ho ?_; (case hb => exact bindsAt_of (by k_is) (by first | exact BindsTo.of_eq rfl | exact binds_K (by k_in) rfl (by k_is) rfl rfl rfl));(case I => ktr_rel); (case J => ktr_rel); (case ox => first | assumption | exact IntM.ok (by assumption)); (case oy => first | assumption | exact IntM.ok (by assumption)); (case ho => first | assumption | exact Or.inl (by assumption) | exact Or.inr (by assumption)); (case X => k_in); (case T => exact Top.keeps (by assumption) (Fr.keep (by assumption))); (case C => exact Nice.less (by assumption) (by decide)); intro r' h' tk' k' I'; (have F' := Fr.stay (by assumption) k'); (have N' := News.stay (by assumption) k')); (try dsimp only); (try dsimp only at k'); (try k_sweep)))

local macro_rules | `(tactic| walk_at "call ref") => `(tactic| (k_here; (with_reducible show wpAny _ _ (call (Value.ref 276) [_, _, _, _, Value.none]) _ _ _); k_dflt (refine' over_ok ?X ?T ?C ?I ?J ?ox ?oy ?ho ?ny ?_; (case X => k_in); (case T => exact Top.keeps (by assumption) (Fr.keep (by assumption))); (case C => exact Nice.less (by assumption) (by decide)); (case I => ktr_rel); (case J => ktr_rel); (case ox => assumption); (case oy => assumption); (case ho => assumption); (case ny => assumption); intro r' h' tk' k' I'; (have F' := Fr.stay (by assumption) k'); (have N' := News.stay (by assumption) k')); (try dsimp only); (try dsimp only at k'); (try k_sweep)))
local macro_rules | `(tactic| walk_at "call ref") => `(tactic| (k_here; (with_reducible show wpAny _ _ (call (Value.ref 276) [_, _, _, _, Value.int _ _]) _ _ _); k_dflt (refine' overi_ok ?X ?T ?C ?I ?J ?oy ?sy ?h1 ?h2 ?_; (case X => k_in); (case T => exact Top.keeps (by assumption) (Fr.keep (by assumption))); (case C => exact Nice.less (by assumption) (by decide)); (case I => ktr_rel); (case J => ktr_rel); (case oy => assumption); (case sy => assumption); (case h1 => assumption); (case h2 => assumption); intro r' h' tk' k' I'; (have F' := Fr.stay (by assumption) k'); (have N' := News.stay (by assumption) k')); (try dsimp only); (try dsimp only at k'); (try k_sweep)))
local macro_rules | `(tactic| walk_at "call ref") => `(tactic| (k_here; (with_reducible show wpAny _ _ (call (Value.ref 283) _) _ _ _); k_dflt (refine' root_ok ?X ?T ?C ?I ?h1 ?h2 ?_; (case X => k_in); (case T => exact Top.keeps (by assumption) (Fr.keep (by assumption))); (case C => exact Nice.less (by assumption) (by decide)); (case I => ktr_rel); (case h1 => assumption); (case h2 => assumption); intro h' tk' k'; (have F' := Fr.stay (by assumption) k'); (have N' := News.stay (by assumption) k')); (try dsimp only); (try dsimp only at k'); (try k_sweep)))

local macro_rules | `(tactic| walk_at "no such step") => `(tactic| skip)
section
variable {w : World} {A : Around} {E : Value → Shared → Prop} {s : Shared} {Q : Value → Shared → Prop}
  {p : Program} {loose : List Str} {mean : ExcName → Option Value} {mg mb : Str → Option Value} {x y : M4} {r q : Addr}


section
variable {h₀ : Heap} {L l : Addr} {m : Str → Option Value} {news : List (Addr × Obj)}
theorem hide_stays {h : Heap} {o : Obj} (F : Fr h₀ L h m) (N : News h₀ L h news) (hm : (l, o) ∈ news) : h₀.StaysIn (hideAll h [l]) := fun b ob e => hideAll_get _ (F.keep b ob e) (by
  intro q
  rcases List.mem_singleton.mp q with rfl
  have := (N _ hm).2.2
  rw [e] at this; cases this)
theorem msum_at {pr : Int} {tp : Tok} {rv : Value} (F : Fr h₀ L s.heap m) (N : News h₀ L s.heap news) (hm : (l, listOf #[.ref r, .ref q] 0) ∈ news) (X : (hd.heap_39 w.params).In h₀) (T : Top p loose mean mg mb h₀) (C : Nice 3 A) (I : IsM h₀ r x) (J : IsM h₀ q y)
   (ox : Ok x) (oy : Ok y) (hodd : spM x ∨ spM y) (hp1 : 1 ≤ pr) (hp2 : pr ≤ 60)
   (h : ∀ r' h' tk', s.heap.StaysIn h' → IsM h' r' (sumM x y) → Q (.ref r') ⟨h', s.gens, s.drawn, tk', s.os⟩) : wpAny (model P0 w) A (call (.ref 150) [.ref l, .int pr tp, rv]) Q E s :=
  have k := hide_stays F N hm
  msum_ok (N.get hm) (X.keeps k) (T.keeps k) C (I.stay k) (J.stay k) ox oy hodd hp1 hp2 h
end
local macro_rules | `(tactic| walk_at "call ref") => `(tactic| (k_here; (with_reducible show wpAny _ _ (call (Value.ref 150) _) _ _ _); k_dflt (refine' msum_at ?F ?N ?m ?X ?T ?C ?I ?J ?ox ?oy ?ho ?p1 ?p2 ?_; (case F => k_asm); (case N => k_asm); (case m => k_mem); (case X => assumption); (case T => assumption); (case C => exact Nice.less (by assumption) (by decide)); (case I => assumption); (case J => assumption); (case ox => assumption); (case oy => assumption); (case ho => assumption); (case p1 => assumption); (case p2 => assumption); intro r' h' tk' k' I'; (have F' := Fr.stay (by assumption) k'); (have N' := News.stay (by assumption) k')); (try dsimp only); (try dsimp only at k'); (try k_sweep)))

theorem sub_sum (ox : Ok x) (oy : Ok y) (h : spM x ∨ spM y) : addM x y (negM y) = sumM x (negM y) := by
  rcases ox with rfl | rfl | rfl | rfl | hx <;> rcases oy with rfl | rfl | rfl | rfl | hy
  all_goals first
    | decide
    | (obtain ⟨n1, n2, n3, n4⟩ := Ok.fin hx.2.1; have e : ¬ x.2.1 = 0 := by omega
       simp [addM, sumM, grM, negM, e, n1, n2, n3, n4]; done)
    | (have e : ¬ y.2.1 = 0 := by omega
       have hp := hy.2.1
       obtain ⟨n1, n2, n3, n4⟩ := Ok.fin (x := negM y) (by simp only [negM, if_neg e]; exact hp)
       simp [addM, sumM, grM, e, n1, n2, n3, n4]; done)
    | (exfalso; unfold spM at h; omega)
    | (exfalso; unfold spM at h; simp at h; done)
theorem neg_fin (h : 0 < y.2.1) : negM y = (1 - y.1, y.2.1, y.2.2.1, y.2.2.2) := by
  unfold negM; rw [if_neg (by omega)]
theorem neg_great (h : grM y) : negM y = if 0 < -lsignM y then inf else ninf := by
  rcases h with rfl | rfl <;> decide
theorem neg_rest (oy : Ok y) (h : y.2.1 = 0) (n : ¬ grM y) : negM y = y := by
  unfold negM
  rw [if_pos h]
  split
  · rfl
  rw [if_neg (fun e => n (.inl e)), if_neg (fun e => n (.inr e))]
theorem odd_of (ox : Ok x) : spM x ↔ (x = inf ∨ x = ninf ∨ x = nan) :=
  ⟨fun h => ox.sp h.1 h.2, fun h => by rcases h with rfl | rfl | rfl <;> (unfold spM; decide)⟩

theorem ab1 (e : addM x y (if (0 : Int) = 0 then y else negM y) ≠ sumM x y) (ox : Ok x) (oy : Ok y) (h : spM x ∨ spM y) : False := e (addM_sum ox oy h)
theorem ab2 (e : addM x y (negM y) ≠ sumM x (1 - y.1, y.2.1, y.2.2.1, y.2.2.2)) (ox : Ok x) (oy : Ok y) (h : spM x ∨ spM y) (hy : 0 < y.2.1) : False := e (by rw [← neg_fin hy]; exact sub_sum ox oy h)
theorem ab3 (e : addM x y (negM y) ≠ sumM x (if 0 < -lsignM y then inf else ninf)) (ox : Ok x) (oy : Ok y) (h : spM x ∨ spM y) (hy : y = inf ∨ y = ninf) : False := e (by rw [← neg_great hy]; exact sub_sum ox oy h)
theorem ab4 (e : addM x y (negM y) ≠ sumM x y) (ox : Ok x) (oy : Ok y) (h : spM x ∨ spM y) (hy : ¬ (y = inf ∨ y = ninf)) (hy2 : y.2.1 = 0) : False := e (by have := sub_sum ox oy h; rw [neg_rest oy hy2 hy] at this ⊢; exact this)
local macro_rules | `(tactic| tb_start) => `(tactic| (exfalso; first
  | (with_reducible contradiction)
  | exact ab1 (by with_reducible assumption) (by assumption) (by assumption) (by assumption)
  | exact ab2 (by with_reducible assumption) (by assumption) (by assumption) (by assumption) (by assumption)
  | exact ab3 (by with_reducible assumption) (by assumption) (by assumption) (by assumption) (by assumption)
  | exact ab4 (by with_reducible assumption) (by assumption) (by assumption) (by assumption) (by assumption) (by assumption)
  | exact absurd rfl (by assumption) | omega | (law_clear; simp_all; done)))
theorem two_a {pr : Int} {tp : Tok} {rv : Value} (X : (hd.heap_39 w.params).In s.heap) (T : Top p loose mean mg mb s.heap) (C : Nice 4 A) (I : IsM s.heap r x) (J : IsM s.heap q y)
   (ox : Ok x) (oy : Ok y) (ny : y ≠ zero) (hp1 : 1 ≤ pr) (hp2 : pr ≤ 60) (hx : x = inf ∨ x = ninf ∨ x = nan) (hy : 0 < y.2.1) 
   (h : ∀ h' tk', s.heap.StaysIn h' → Q (.bool true) ⟨h', s.gens, s.drawn, tk', s.os⟩) : wpAny (model P0 w) A (call (.ref 290) [.ref r, .ref q, .int pr tp, rv]) Q E s := by
  have B : Binds [(Str.ofString "s", .ref r), (Str.ofString "t", .ref q), (Str.ofString "prec", .int pr tp), (Str.ofString "rnd", rv)] := trivial
  have hodd : spM x ∨ spM y := .inl ((odd_of ox).mpr hx)
  have hf := Ok.fin hy
  have hf2 : ¬ (y = inf ∨ y = ninf) := fun e => e.elim hf.1 hf.2.1
  have hf3 : ¬ (y = inf ∨ y = ninf ∨ y = nan) := fun e => e.elim hf.1 fun e => e.elim hf.2.1 hf.2.2.1
  kwd_inv
  kwd_less
  all_goals exact h _ _ (Fr.keep (by assumption))
theorem two_b {pr : Int} {tp : Tok} {rv : Value} (X : (hd.heap_39 w.params).In s.heap) (T : Top p loose mean mg mb s.heap) (C : Nice 4 A) (I : IsM s.heap r x) (J : IsM s.heap q y)
   (ox : Ok x) (oy : Ok y) (ny : y ≠ zero) (hp1 : 1 ≤ pr) (hp2 : pr ≤ 60) (hx : x = inf ∨ x = ninf ∨ x = nan) (hy : y = inf ∨ y = ninf ∨ y = nan) 
   (h : ∀ h' tk', s.heap.StaysIn h' → Q (.bool true) ⟨h', s.gens, s.drawn, tk', s.os⟩) : wpAny (model P0 w) A (call (.ref 290) [.ref r, .ref q, .int pr tp, rv]) Q E s := by
  have B : Binds [(Str.ofString "s", .ref r), (Str.ofString "t", .ref q), (Str.ofString "prec", .int pr tp), (Str.ofString "rnd", rv)] := trivial
  have hodd : spM x ∨ spM y := .inl ((odd_of ox).mpr hx)
  have hy2 : y.2.1 = 0 := by rcases hy with rfl | rfl | rfl <;> rfl
  kwd_inv
  kwd_less
  all_goals exact h _ _ (Fr.keep (by assumption))
theorem two_c {pr : Int} {tp : Tok} {rv : Value} (X : (hd.heap_39 w.params).In s.heap) (T : Top p loose mean mg mb s.heap) (C : Nice 4 A) (I : IsM s.heap r x) (J : IsM s.heap q y)
   (ox : Ok x) (oy : Ok y) (ny : y ≠ zero) (hp1 : 1 ≤ pr) (hp2 : pr ≤ 60) (hx : ¬ (x = inf ∨ x = ninf ∨ x = nan)) (hy : 0 < y.2.1) 
   (h : ∀ h' tk', s.heap.StaysIn h' → Q (.bool true) ⟨h', s.gens, s.drawn, tk', s.os⟩) : wpAny (model P0 w) A (call (.ref 290) [.ref r, .ref q, .int pr tp, rv]) Q E s := by
  have B : Binds [(Str.ofString "s", .ref r), (Str.ofString "t", .ref q), (Str.ofString "prec", .int pr tp), (Str.ofString "rnd", rv)] := trivial
  have hf := Ok.fin hy
  have hf2 : ¬ (y = inf ∨ y = ninf) := fun e => e.elim hf.1 hf.2.1
  have hf3 : ¬ (y = inf ∨ y = ninf ∨ y = nan) := fun e => e.elim hf.1 fun e => e.elim hf.2.1 hf.2.2.1
  kwd_inv
  kwd_less
  all_goals (rw [decide_eq_true hy]; exact h _ _ (Fr.keep (by assumption)))
theorem two_d {pr : Int} {tp : Tok} {rv : Value} (X : (hd.heap_39 w.params).In s.heap) (T : Top p loose mean mg mb s.heap) (C : Nice 4 A) (I : IsM s.heap r x) (J : IsM s.heap q y)
   (ox : Ok x) (oy : Ok y) (ny : y ≠ zero) (hp1 : 1 ≤ pr) (hp2 : pr ≤ 60) (hx : ¬ (x = inf ∨ x = ninf ∨ x = nan)) (hy : y = inf ∨ y = ninf ∨ y = nan) 
   (h : ∀ h' tk', s.heap.StaysIn h' → Q (.bool true) ⟨h', s.gens, s.drawn, tk', s.os⟩) : wpAny (model P0 w) A (call (.ref 290) [.ref r, .ref q, .int pr tp, rv]) Q E s := by
  have B : Binds [(Str.ofString "s", .ref r), (Str.ofString "t", .ref q), (Str.ofString "prec", .int pr tp), (Str.ofString "rnd", rv)] := trivial
  have hodd : spM x ∨ spM y := .inr ((odd_of oy).mpr hy)
  have hy2 : y.2.1 = 0 := by rcases hy with rfl | rfl | rfl <;> rfl
  kwd_inv
  kwd_less
  all_goals exact h _ _ (Fr.keep (by assumption))
theorem two_ok {pr : Int} {tp : Tok} {rv : Value} (X : (hd.heap_39 w.params).In s.heap) (T : Top p loose mean mg mb s.heap) (C : Nice 4 A) (I : IsM s.heap r x) (J : IsM s.heap q y)
   (ox : Ok x) (oy : Ok y) (ny : y ≠ zero) (hp1 : 1 ≤ pr) (hp2 : pr ≤ 60) 
   (h : ∀ h' tk', s.heap.StaysIn h' → Q (.bool true) ⟨h', s.gens, s.drawn, tk', s.os⟩) : wpAny (model P0 w) A (call (.ref 290) [.ref r, .ref q, .int pr tp, rv]) Q E s := by
  have fy := oy.facts.2.1
  by_cases hx : x = inf ∨ x = ninf ∨ x = nan <;> by_cases hy : 0 < y.2.1
  · exact two_a X T C I J ox oy ny hp1 hp2 hx hy h
  · exact two_b X T C I J ox oy ny hp1 hp2 hx (oy.sp (by omega) (fun e => ny (oy.zr (by omega) e))) h
  · exact two_c X T C I J ox oy ny hp1 hp2 hx hy h
  · exact two_d X T C I J ox oy ny hp1 hp2 hx (oy.sp (by omega) (fun e => ny (oy.zr (by omega) e))) h

theorem IsM.upto {h h' : Heap} {r : Addr} {x : M4} (I : IsM h r x) (u : h.UpToSlots h') : IsM h' r x := by
  obtain ⟨a, b, c, d, o, ho, hc, n, hd⟩ := I
  obtain ⟨sl, e⟩ := u r o ho (fun vs q => by rw [hd] at q; cases q)
  exact ⟨a, b, c, d, _, e, hc, n, hd⟩
theorem fr_size {h₀ h : Heap} {L : Addr} {m : Str → Option Value} (F : Fr h₀ L h m) : h₀.objs.size ≤ h.objs.size := by
  obtain ⟨⟨o, _, _, c, _⟩, _, f⟩ := F
  exact Nat.le_of_lt (Nat.lt_of_le_of_lt f (Heap.lt_size c))
theorem over0_at {A₀ : Around} {env : Env} {g base : Heap} {outer : List Env} {L : Addr} {m : Str → Option Value} {pr : Int} {tp : Tok} {rv : Value} (F : Fr g L s.heap m) (Bl : Below A₀ base outer g) (hz : base.objs.size ≤ g.objs.size) (hf : env.frame = some L) (hk : env.scope.kind = .function)
   (X0 : (hd.heap_39 w.params).In base) (T0 : Top p loose mean mg mb base) (C : Nice 3 (A₀.deeper env)) (I : IsM g r x) (J : IsM g q y) (hy : y = zero)
   (h : ∀ h' tk', Fr base L h' m → News base L h' [] → Top p loose mean mg mb base → (hd.heap_39 w.params).In base → IsM h' r x → IsM h' q y → g.UpToSlots h' → Q .none ⟨h', s.gens, s.drawn, tk', s.os⟩) :
   wpAny (model P0 w) (A₀.deeper env) (call (.ref 276) [.ref r, .ref q, .int pr tp, rv, .none]) Q E s := by
  subst hy
  refine over0_ok (pushX Bl F hf hk) (Nat.le_trans hz (fr_size F)) X0 T0 C (I.stay F.keep) (J.stay F.keep) fun h' tk' k u => ?_
  have F0 : Fr base L s.heap m := ⟨F.ns, fun b o q => F.keep b o (Bl.stays b o q), Nat.le_trans hz F.above⟩
  exact h _ _ (F0.of_stays k u) News.nil T0 X0 ((I.stay F.keep).upto u) ((J.stay F.keep).upto u) ((Heap.UpToSlots.of_keeps F.keep).trans u)
local macro_rules | `(tactic| walk_at "call ref") => `(tactic| (k_here; (with_reducible show wpAny _ _ (call (Value.ref 276) [_, _, _, _, Value.none]) _ _ _); k_dflt (refine' over0_at ?F ?B ?hz ?hf ?hk ?X ?T ?C ?I ?J ?hy ?_; (case hy => assumption); (case F => k_asm); (case B => assumption); (case hz => assumption); (case hf => rfl); (case hk => rfl); (case X => assumption); (case T => assumption); (case C => exact Nice.less (by assumption) (by decide)); (case I => assumption); (case J => assumption); intro h' tk' F' N' T' X' I' J' up'); (try dsimp only); (try k_sweep)))
theorem twoz_a {pr : Int} {tp : Tok} {rv : Value} {base : Heap} {outer : List Env} (Bl : Below A base outer s.heap) (hz : base.objs.size ≤ s.heap.objs.size) (X0 : (hd.heap_39 w.params).In base) (T0 : Top p loose mean mg mb base) (C : Nice 4 A) (I : IsM s.heap r x) (J : IsM s.heap q y)
   (ox : Ok x) (hy : y = zero) (hp1 : 1 ≤ pr) (hp2 : pr ≤ 60) (hx : x = inf ∨ x = ninf ∨ x = nan) 
   (h : ∀ h' tk', base.StaysIn h' → s.heap.UpToSlots h' → Q (.bool true) ⟨h', s.gens, s.drawn, tk', s.os⟩) : wpAny (model P0 w) A (call (.ref 290) [.ref r, .ref q, .int pr tp, rv]) Q E s := by
  have B : Binds [(Str.ofString "s", .ref r), (Str.ofString "t", .ref q), (Str.ofString "prec", .int pr tp), (Str.ofString "rnd", rv)] := trivial
  have X := X0.keeps Bl.stays
  have T := T0.keeps Bl.stays
  have oy : Ok y := .inr (.inr (.inr (.inl hy)))
  have hy2 : y.2.1 = 0 := by rw [hy]
  have hf2 : ¬ (y = inf ∨ y = ninf) := by rw [hy]; decide
  have hf3 : ¬ (y = inf ∨ y = ninf ∨ y = nan) := by rw [hy]; decide
  have hodd : spM x ∨ spM y := .inl ((odd_of ox).mpr hx)
  kwd_inv
  kwd_less
  all_goals first | exact h _ _ (Fr.keep (by assumption)) (Heap.UpToSlots.trans (by assumption) (Heap.UpToSlots.of_keeps (by assumption)))
theorem twoz_b {pr : Int} {tp : Tok} {rv : Value} {base : Heap} {outer : List Env} (Bl : Below A base outer s.heap) (hz : base.objs.size ≤ s.heap.objs.size) (X0 : (hd.heap_39 w.params).In base) (T0 : Top p loose mean mg mb base) (C : Nice 4 A) (I : IsM s.heap r x) (J : IsM s.heap q y)
   (ox : Ok x) (hy : y = zero) (hp1 : 1 ≤ pr) (hp2 : pr ≤ 60) (hx : ¬ (x = inf ∨ x = ninf ∨ x = nan)) 
   (h : ∀ h' tk', base.StaysIn h' → s.heap.UpToSlots h' → Q (.bool true) ⟨h', s.gens, s.drawn, tk', s.os⟩) : wpAny (model P0 w) A (call (.ref 290) [.ref r, .ref q, .int pr tp, rv]) Q E s := by
  have B : Binds [(Str.ofString "s", .ref r), (Str.ofString "t", .ref q), (Str.ofString "prec", .int pr tp), (Str.ofString "rnd", rv)] := trivial
  have X := X0.keeps Bl.stays
  have T := T0.keeps Bl.stays
  have oy : Ok y := .inr (.inr (.inr (.inl hy)))
  have hy2 : y.2.1 = 0 := by rw [hy]
  have hf2 : ¬ (y = inf ∨ y = ninf) := by rw [hy]; decide
  have hf3 : ¬ (y = inf ∨ y = ninf ∨ y = nan) := by rw [hy]; decide
  kwd_inv
  kwd_less
  all_goals first | exact h _ _ (Fr.keep (by assumption)) (Heap.UpToSlots.trans (by assumption) (Heap.UpToSlots.of_keeps (by assumption)))
theorem twoz_ok {pr : Int} {tp : Tok} {rv : Value} {base : Heap} {outer : List Env} (Bl : Below A base outer s.heap) (hz : base.objs.size ≤ s.heap.objs.size) (X0 : (hd.heap_39 w.params).In base) (T0 : Top p loose mean mg mb base) (C : Nice 4 A) (I : IsM s.heap r x) (J : IsM s.heap q y)
   (ox : Ok x) (hy : y = zero) (hp1 : 1 ≤ pr) (hp2 : pr ≤ 60) 
   (h : ∀ h' tk', base.StaysIn h' → s.heap.UpToSlots h' → Q (.bool true) ⟨h', s.gens, s.drawn, tk', s.os⟩) : wpAny (model P0 w) A (call (.ref 290) [.ref r, .ref q, .int pr tp, rv]) Q E s := by
  by_cases hx : x = inf ∨ x = ninf ∨ x = nan
  · exact twoz_a Bl hz X0 T0 C I J ox hy hp1 hp2 hx h
  · exact twoz_b Bl hz X0 T0 C I J ox hy hp1 hp2 hx h
end

end
section
local macro_rules | `(tactic| k_mem) => `(tactic| with_reducible assumption)
-- a tuple's fact
local macro_rules | `(tactic| ktr_rel) => `(tactic| first
  | with_reducible assumption
  | exact IsM.of_tup (Fr.tup (by k_asm) (by with_reducible assumption))
  | exact IsM.stay (Fr.keep (by k_asm)) (by with_reducible assumption)
  | exact IsM.of_news (by k_asm) (by k_mem)
  | exact IsM.of_newsO (by k_asm) (by k_mem) (by with_reducible assumption)
  | exact inf_at (by k_in)
  | exact ninf_at (by k_in)
  | exact nan_at (by k_in)
  | exact zero_at (by k_in)
  | exact one_at (by k_in)
  | exact IsM.stay (by with_reducible assumption) (by with_reducible assumption))
-- room
local macro_rules | `(tactic| ktr_room) => `(tactic| first | exact Nice.room (by assumption) | exact Nice.room1 (by assumption))
-- an absurd way
local macro_rules | `(tactic| ktr_unf) => `(tactic| first | exact absurd rfl (by assumption) | skip)
-- entering a def
local macro_rules | `(tactic| kwd_inv) => `(tactic| (
  refine' enter ?B ?X ?T ?C ?ho ?hcd ?hbind ?hloc ?_ ?c2 ?c3 ?c4 ?c5
  (case B => assumption)
  (case X => assumption)
  (case T => exact topRead_of (by assumption))
  (case C => assumption)
  (case ho => k_is)
  (case hcd => k_is)
  (case hbind => first | exact BindsAt.at (by assumption) (by k_is) | exact BindsTo.of_eq rfl | exact binds_K (by assumption) rfl (by k_is) rfl rfl rfl)
  (case hloc => exact locs rfl)
  (case c2 => exact rfl)
  (case c3 => exact rfl)
  (case c4 => exact rfl)
  (case c5 => decide)
  intro L' h' tk' F' N' C'
  (try dsimp only [List.reverse_cons, List.reverse_nil, List.nil_append, List.cons_append])
  (try dsimp only [List.reverse_cons, List.reverse_nil, List.nil_append, List.cons_append] at F')
  (try k_fold)))
-- a store
local macro_rules | `(tactic| walk_at "storeName") => `(tactic| (k_here; k_dflt (refine' storeT ?F ?N ?_ ?a ?b; (case F => k_asm); (case N => k_asm); (case a => rfl); (case b => rfl); k_whole; intro h' tk' F' N'); (try dsimp only); (try k_sweep)))
-- a new tuple of four ints
local macro_rules | `(tactic| walk_at "newTuple") => `(tactic| (k_here; k_dflt (refine' newTup4 ?F ?N ?_; (case F => k_asm); (case N => k_asm); intro D' h' ta' tb' tc' td' F' N' k'); (try dsimp only); (try dsimp only at k'); (try k_sweep)))
-- comparisons
local macro_rules | `(tactic| walk_at "compareOp Eq ref ref") => `(tactic| (k_here; k_dflt (refine' eqM ?I ?J ?u ?_ ?_; (case I => ktr_rel); (case J => ktr_rel); (case u => ktr_room)); (all_goals (intro e'; try tb_start))))
local macro_rules | `(tactic| walk_at "compareOp NotEq ref ref") => `(tactic| (k_here; k_dflt (refine' neM ?I ?J ?u ?_ ?_; (case I => ktr_rel); (case J => ktr_rel); (case u => ktr_room)); (all_goals (intro e'; try tb_start))))
local macro_rules | `(tactic| tb_start) => `(tactic| first | exact absurd rfl (by assumption) | (exfalso; omega) | (exfalso; law_clear; simp_all; done))
-- unpacking
local macro_rules | `(tactic| walk_at "assign Tuple") => `(tactic| (k_here; (with_reducible show wpAny _ _ (assign (Expr.Tuple _ _ _) _ (Value.ref _)) _ _ _); k_dflt (refine' unpackM ?F ?N ?I ?C ?n ?s ?_; (case F => k_asm); (case N => k_asm); (case I => ktr_rel); (case C => assumption); (case n => exact rfl); (case s => exact rfl); intro h' ta' tb' tc' td' F' N'); (try dsimp only); (try k_sweep)))
-- the walk
local macro_rules | `(tactic| kwd_less) => `(tactic| (w_top on; (repeat' (first | (k_unmd; k_unfold; (try dsimp only)) | walk1 | (dsimp only; first | (k_unmd; k_unfold; (try dsimp only)) | walk1) | fail "no step")); (all_goals (try dsimp only))))
local macro_rules | `(tactic| walk_at "assign Tuple") => `(tactic| (k_here; (with_reducible show wpAny _ _ (assign (Expr.Tuple [_, _] _ _) _ (Value.ref _)) _ _ _); k_dflt (refine' unpackN_ ?F ?N ?I ?C ?n ?s ?_; (case F => k_asm); (case N => k_asm); (case I => exact News.isTup (by k_asm) (by k_mem)); (case C => exact Nice.hh (by assumption)); (case n => exact rfl); (case s => exact rfl); intro h' F' N'); (try dsimp only); (try k_sweep)))
local macro_rules | `(tactic| walk_at "unpackItems ref") => `(tactic| (k_here; k_dflt (refine' unpackItemsN_ ?F ?N ?I ?C ?n ?_; (case F => k_asm); (case N => k_asm); (case I => exact News.isTup (by k_asm) (by k_mem)); (case C => exact Nice.hh (by assumption)); (case n => exact rfl); intro h' F' N'); (try dsimp only); (try k_sweep)))
-- an item of a tuple of four
local macro_rules | `(tactic| walk_at "subscriptTail") => `(tactic| (k_here; (with_reducible show wpAny _ _ (subscriptTail _ _ (Value.ref _) (Value.int 0 _)) _ _ _); k_dflt (refine' item4_0 ?I ?_ ?hs; (case I => ktr_rel); (case hs => with_unfolding_all rfl)); k_whole; intro t'; (try dsimp only)))
local macro_rules | `(tactic| walk_at "subscriptTail") => `(tactic| (k_here; (with_reducible show wpAny _ _ (subscriptTail _ _ (Value.ref _) (Value.int 1 _)) _ _ _); k_dflt (refine' item4_1 ?I ?_ ?hs; (case I => ktr_rel); (case hs => with_unfolding_all rfl)); k_whole; intro t'; (try dsimp only)))
local macro_rules | `(tactic| walk_at "subscriptTail") => `(tactic| (k_here; (with_reducible show wpAny _ _ (subscriptTail _ _ (Value.ref _) (Value.int 2 _)) _ _ _); k_dflt (refine' item4_2 ?I ?_ ?hs; (case I => ktr_rel); (case hs => with_unfolding_all rfl)); k_whole; intro t'; (try dsimp only)))
local macro_rules | `(tactic| walk_at "subscriptTail") => `(tactic| (k_here; (with_reducible show wpAny _ _ (subscriptTail _ _ (Value.ref _) (Value.int 3 _)) _ _ _); k_dflt (refine' item4_3 ?I ?_ ?hs; (case I => ktr_rel); (case hs => with_unfolding_all rfl)); k_whole; intro t'; (try dsimp only)))
-- membership
local macro_rules | `(tactic| ktd_rel) => `(tactic| first | exact AreM.nil | (refine' AreM.cons ?a ?b; (case a => ktr_rel); (case b => ktd_rel)))
local macro_rules | `(tactic| walk_at "compareOp In ref ref") => `(tactic| (k_here; k_dflt (first
  | (refine' inListM ?l ?G ?J ?u ?_ ?_; (case l => exact News.isList (by k_asm) (by k_mem)); (case G => ktd_rel); (case J => ktr_rel); (case u => ktr_room))
  | (refine' inTupM ?l ?G ?J ?u ?_ ?_; (case l => exact News.isTup (by k_asm) (by k_mem)); (case G => ktd_rel); (case J => ktr_rel); (case u => ktr_room))); (all_goals (intro e'; (try simp only [List.mem_cons, List.not_mem_nil, or_false] at e'); try tb_start))))
-- a branch that the facts decide
local macro_rules | `(tactic| kwd_rel) => `(tactic| first | with_reducible assumption | (simp only [decide_eq_true_eq, decide_eq_false_iff_not, Bool.not_eq_true, Bool.not_eq_false, bne_iff_ne, beq_iff_eq, bne_eq_false_iff_eq, beq_eq_false_iff_ne, Bool.and_eq_true, Bool.or_eq_true, Bool.not_eq_true', Bool.not_eq_false', ne_eq]; omega) | omega)
local macro_rules | `(tactic| walk_at "ite") => `(tactic| (k_here; k_openite; k_dflt (first | (refine' ite_pos ?c ?_; (case c => kwd_rel)) | (refine' ite_neg ?c ?_; (case c => kwd_rel))); walk_say "CUT"))
-- a dict display by ints
local macro_rules | `(tactic| walk_at "eval Dict") => `(tactic| (k_here; k_dflt (refine' kdn_eval (knd := PySem.intKind _ _) ?F ?N ?b ?a ?l ?e ?n ?_; (case F => k_asm); (case N => k_asm); (case b => exact Top.nolimit (by k_asm)); (case a => rfl); (case l => rfl); (case e => exact List.cons_ne_nil _ _); (case n => exact Nat.le_of_ble_eq_true rfl)); intro d' h' o' F' N' l1 lo' hd'; (try k_lt l1)))
-- a written condition, ahead of all
local macro_rules | `(tactic| walk_at "ite") => `(tactic| (k_closed; k_dflt (first | refine ite_pos (by decide) ?_ | refine ite_neg (by decide) ?_)))
local macro_rules | `(tactic| walk_at "ite") => `(tactic| (k_here; first | with_reducible refine ite_tt ?_ | with_reducible refine ite_ff ?_))
-- a name of the frame's or of the top's, ahead of the kit's other lines
local macro_rules | `(tactic| walk_at "eval Name") => `(tactic| (k_here; (fail_if_success (with_reducible show wpAny _ _ (eval _ (compEnvC _ _ _ _)) _ _ _)); k_dflt (first | (refine' nameX_L ?F ?v ?_ ?a ?b; (case F => k_asm); (case a => rfl); (case b => rfl); (case v => rfl); k_whole) | (refine' nameX_K ?F ?X ?T ?e ?_ ?a ?b; (case F => k_asm); (case X => k_asm); (case T => k_asm); (case a => rfl); (case b => rfl); (case e => k_is); k_whole))))
local macro_rules | `(tactic| walk_at "call ref") => `(tactic| (k_here; (with_reducible show wpAny _ _ (call (Value.ref 248) _) _ _ _); k_dflt (refine' sum_ok ?X ?T ?C ?I ?J ?_; (case X => k_in); (case T => exact Top.keeps (by assumption) (Fr.keep (by assumption))); (case C => exact Nice.less (by assumption) (by decide)); (case I => ktr_rel); (case J => ktr_rel); intro r' h' tk' k' I'; (have F' := Fr.stay (by assumption) k'); (have N' := News.stay (by assumption) k')); (try dsimp only); (try dsimp only at k'); (try k_sweep)))
local macro_rules | `(tactic| walk_at "call ref") => `(tactic| (k_here; (with_reducible show wpAny _ _ (call (Value.ref 255) _) _ _ _); k_dflt (refine' prod_ok ?X ?T ?C ?I ?J ?_; (case X => k_in); (case T => exact Top.keeps (by assumption) (Fr.keep (by assumption))); (case C => exact Nice.less (by assumption) (by decide)); (case I => ktr_rel); (case J => ktr_rel); intro r' h' tk' k' I'; (have F' := Fr.stay (by assumption) k'); (have N' := News.stay (by assumption) k')); (try dsimp only); (try dsimp only at k'); (try k_sweep)))
local macro_rules | `(tactic| walk_at "call ref") => `(tactic| (k_here; (with_reducible show wpAny _ _ (call (Value.ref 269) _) _ _ _); k_dflt (refine' pow_ok ?X ?T ?C ?I ?_; (case X => k_in); (case T => exact Top.keeps (by assumption) (Fr.keep (by assumption))); (case C => exact Nice.less (by assumption) (by decide)); (case I => ktr_rel); intro r' h' tk' k' I'; (have F' := Fr.stay (by assumption) k'); (have N' := News.stay (by assumption) k')); (try dsimp only); (try dsimp only at k'); (try k_sweep)))
local macro_rules | `(tactic| walk_at "call ref") => `(tactic| (k_here; (with_reducible show wpAny _ _ (call (Value.ref 262) _) _ _ _); k_dflt (refine' quot_ok ?X ?T ?C ?I ?J ?_ ?_; (case X => k_in); (case T => exact Top.keeps (by assumption) (Fr.keep (by assumption))); (case C => exact Nice.less (by assumption) (by decide)); (case I => ktr_rel); (case J => ktr_rel)); (all_goals (intro e'; first | (tb_start; done) | ((first | intro r' h' tk' k' I' | intro h' tk' k'); (have F' := Fr.stay (by assumption) k'); (have N' := News.stay (by assumption) k'); (try dsimp only); (try dsimp only at k'); (try k_sweep))))))

local macro_rules | `(tactic| walk_at "call ref") => `(tactic| (k_here; (with_reducible show wpAny _ _ (call (Value.ref 166) _) _ _ _); k_dflt (refine' mint_ok ?X ?T ?C ?I ?ox ?sx ?h1 ?h2 ?_; (case X => k_in); (case T => exact Top.keeps (by assumption) (Fr.keep (by assumption))); (case C => exact Nice.less (by assumption) (by decide)); (case I => ktr_rel); (case ox => assumption); (case sx => assumption);(case h1 => assumption); (case h2 => assumption); intro r' h' tk' k' I'; (have F' := Fr.stay (by assumption) k'); (have N' := News.stay (by assumption) k')); (try dsimp only); (try dsimp only at k'); (try k_sweep)))
local macro_rules | `(tactic| walk_at "call ref") => `(tactic| (k_here; (with_reducible show wpAny _ _ (call (Value.ref 182) _) _ _ _); k_dflt (refine' rint_ok ?X ?T ?C ?I ?ox ?sx ?h1 ?h2 ?_; (case X => k_in); (case T => exact Top.keeps (by assumption) (Fr.keep (by assumption))); (case C => exact Nice.less (by assumption) (by decide)); (case I => ktr_rel); (case ox => assumption); (case sx => assumption);(case h1 => assumption); (case h2 => assumption); intro r' h' tk' k' I'; (have F' := Fr.stay (by assumption) k'); (have N' := News.stay (by assumption) k')); (try dsimp only); (try dsimp only at k'); (try k_sweep)))
local macro_rules | `(tactic| walk_at "call ref") => `(tactic| (k_here; (with_reducible show wpAny _ _ (call (Value.ref 191) _) _ _ _); k_dflt (refine' pint_ok ?X ?T ?C ?I ?ox ?sx ?h1 ?h2 ?_; (case X => k_in); (case T => exact Top.keeps (by assumption) (Fr.keep (by assumption))); (case C => exact Nice.less (by assumption) (by decide)); (case I => ktr_rel); (case ox => assumption); (case sx => assumption);(case h1 => assumption); (case h2 => assumption); intro r' h' tk' k' I'; (have F' := Fr.stay (by assumption) k'); (have N' := News.stay (by assumption) k')); (try dsimp only); (try dsimp only at k'); (try k_sweep)))
local macro_rules | `(tactic| walk_at "call ref") => `(tactic| (k_here; (with_reducible show wpAny _ _ (call (Value.ref 199) _) _ _ _); k_dflt (refine' sqrt_ok ?X ?T ?C ?I ?h1 ?h2 ?_; (case X => k_in); (case T => exact Top.keeps (by assumption) (Fr.keep (by assumption))); (case C => exact Nice.less (by assumption) (by decide)); (case I => ktr_rel); (case h1 => assumption); (case h2 => assumption); intro h' tk' k'; (have F' := Fr.stay (by assumption) k'); (have N' := News.stay (by assumption) k')); (try dsimp only); (try dsimp only at k'); (try k_sweep)))

local macro_rules | `(tactic| walk_at "call ref") => `(tactic| (k_here; (with_reducible show wpAny _ _ (call (Value.ref 276) [_, _, _, _, Value.none]) _ _ _); k_dflt (refine' over_ok ?X ?T ?C ?I ?J ?ox ?oy ?ho ?ny ?_; (case X => k_in); (case T => exact Top.keeps (by assumption) (Fr.keep (by assumption))); (case C => exact Nice.less (by assumption) (by decide)); (case I => ktr_rel); (case J => ktr_rel); (case ox => assumption); (case oy => assumption); (case ho => assumption); (case ny => assumption); intro r' h' tk' k' I'; (have F' := Fr.stay (by assumption) k'); (have N' := News.stay (by assumption) k')); (try dsimp only); (try dsimp only at k'); (try k_sweep)))
local macro_rules | `(tactic| walk_at "call ref") => `(tactic| (k_here; (with_reducible show wpAny _ _ (call (Value.ref 276) [_, _, _, _, Value.int _ _]) _ _ _); k_dflt (refine' overi_ok ?X ?T ?C ?I ?J ?oy ?sy ?h1 ?h2 ?_; (case X => k_in); (case T => exact Top.keeps (by assumption) (Fr.keep (by assumption))); (case C => exact Nice.less (by assumption) (by decide)); (case I => ktr_rel); (case J => ktr_rel); (case oy => assumption); (case sy => assumption); (case h1 => assumption); (case h2 => assumption); intro r' h' tk' k' I'; (have F' := Fr.stay (by assumption) k'); (have N' := News.stay (by assumption) k')); (try dsimp only); (try dsimp only at k'); (try k_sweep)))
local macro_rules | `(tactic| walk_at "call ref") => `(tactic| (k_here; (with_reducible show wpAny _ _ (call (Value.ref 283) _) _ _ _); k_dflt (refine' root_ok ?X ?T ?C ?I ?h1 ?h2 ?_; (case X => k_in); (case T => exact Top.keeps (by assumption) (Fr.keep (by assumption))); (case C => exact Nice.less (by assumption) (by decide)); (case I => ktr_rel); (case h1 => assumption); (case h2 => assumption); intro h' tk' k'; (have F' := Fr.stay (by assumption) k'); (have N' := News.stay (by assumption) k')); (try dsimp only); (try dsimp only at k'); (try k_sweep)))

section
variable {w : World} {A : Around} {E : Value → Shared → Prop} {s : Shared} {Q : Value → Shared → Prop}
  {p : Program} {loose : List Str} {mean : ExcName → Option Value} {mg mb : Str → Option Value} {x y : M4} {r q : Addr}


theorem one_ok {n pr : Int} {tn tp : Tok} {rv : Value} (X : (hd.heap_39 w.params).In s.heap) (T : Top p loose mean mg mb s.heap) (C : Nice 6 A) (I : IsM s.heap r x) (ox : Ok x) (sx : spM x) (h1 : -9 ≤ n) (h2 : n ≤ 9)
   (h : ∀ h' tk', s.heap.StaysIn h' → Q (.bool true) ⟨h', s.gens, s.drawn, tk', s.os⟩) : wpAny (model P0 w) A (call (.ref 297) [.ref r, .int n tn, .int pr tp, rv]) Q E s := by
  have B : Binds [(Str.ofString "s", .ref r), (Str.ofString "number", .int n tn), (Str.ofString "prec", .int pr tp), (Str.ofString "rnd", rv)] := trivial
  have nz := sp_ne_zero sx
  rcases Int.lt_trichotomy n 0 with hn | hn | hn
  · have hw : wholeM n = (1, 1, 0, 1) := by unfold wholeM; rw [if_neg (by omega), if_pos hn]
    kwd_inv
    kwd_less
    all_goals first | exact h _ _ (Fr.keep (by assumption))
  · have hw : wholeM n = (0, 0, 0, 0) := by unfold wholeM; rw [if_pos hn]
    kwd_inv
    kwd_less
    all_goals first | exact h _ _ (Fr.keep (by assumption))
  · have hw : wholeM n = (0, 1, 0, 1) := by unfold wholeM; rw [if_neg (by omega), if_neg (by omega)]
    kwd_inv
    kwd_less
    all_goals first | exact h _ _ (Fr.keep (by assumption))
end

end
section
local macro_rules | `(tactic| k_mem) => `(tactic| with_reducible assumption)
-- a tuple's fact
local macro_rules | `(tactic| ktr_rel) => `(tactic| first
  | with_reducible assumption
  | exact IsM.of_tup (Fr.tup (by k_asm) (by with_reducible assumption))
  | exact IsM.stay (Fr.keep (by k_asm)) (by with_reducible assumption)
  | exact IsM.of_news (by k_asm) (by k_mem)
  | exact IsM.of_newsO (by k_asm) (by k_mem) (by with_reducible assumption)
  | exact inf_at (by k_in)
  | exact ninf_at (by k_in)
  | exact nan_at (by k_in)
  | exact zero_at (by k_in)
  | exact one_at (by k_in)
  | exact IsM.stay (by with_reducible assumption) (by with_reducible assumption))
-- room
local macro_rules | `(tactic| ktr_room) => `(tactic| first | exact Nice.room (by assumption) | exact Nice.room1 (by assumption))
-- an absurd way
local macro_rules | `(tactic| ktr_unf) => `(tactic| first | exact absurd rfl (by assumption) | skip)
-- entering a def
local macro_rules | `(tactic| kwd_inv) => `(tactic| (
  refine' enter ?B ?X ?T ?C ?ho ?hcd ?hbind ?hloc ?_ ?c2 ?c3 ?c4 ?c5
  (case B => assumption)
  (case X => assumption)
  (case T => exact topRead_of (by assumption))
  (case C => assumption)
  (case ho => k_is)
  (case hcd => k_is)
  (case hbind => first | exact BindsAt.at (by assumption) (by k_is) | exact BindsTo.of_eq rfl | exact binds_K (by assumption) rfl (by k_is) rfl rfl rfl)
  (case hloc => exact locs rfl)
  (case c2 => exact rfl)
  (case c3 => exact rfl)
  (case c4 => exact rfl)
  (case c5 => decide)
  intro L' h' tk' F' N' C'
  (try dsimp only [List.reverse_cons, List.reverse_nil, List.nil_append, List.cons_append])
  (try dsimp only [List.reverse_cons, List.reverse_nil, List.nil_append, List.cons_append] at F')
  (try k_fold)))
-- a store
local macro_rules | `(tactic| walk_at "storeName") => `(tactic| (k_here; k_dflt (refine' storeT ?F ?N ?_ ?a ?b; (case F => k_asm); (case N => k_asm); (case a => rfl); (case b => rfl); k_whole; intro h' tk' F' N'); (try dsimp only); (try k_sweep)))
-- a new tuple of four ints
local macro_rules | `(tactic| walk_at "newTuple") => `(tactic| (k_here; k_dflt (refine' newTup4 ?F ?N ?_; (case F => k_asm); (case N => k_asm); intro D' h' ta' tb' tc' td' F' N' k'); (try dsimp only); (try dsimp only at k'); (try k_sweep)))
-- comparisons
local macro_rules | `(tactic| walk_at "compareOp Eq ref ref") => `(tactic| (k_here; k_dflt (refine' eqM ?I ?J ?u ?_ ?_; (case I => ktr_rel); (case J => ktr_rel); (case u => ktr_room)); (all_goals (intro e'; try tb_start))))
local macro_rules | `(tactic| walk_at "compareOp NotEq ref ref") => `(tactic| (k_here; k_dflt (refine' neM ?I ?J ?u ?_ ?_; (case I => ktr_rel); (case J => ktr_rel); (case u => ktr_room)); (all_goals (intro e'; try tb_start))))
local macro_rules | `(tactic| tb_start) => `(tactic| first | exact absurd rfl (by assumption) | (exfalso; omega) | (exfalso; law_clear; simp_all; done))
-- unpacking
local macro_rules | `(tactic| walk_at "assign Tuple") => `(tactic| (k_here; (with_reducible show wpAny _ _ (assign (Expr.Tuple _ _ _) _ (Value.ref _)) _ _ _); k_dflt (refine' unpackM ?F ?N ?I ?C ?n ?s ?_; (case F => k_asm); (case N => k_asm); (case I => ktr_rel); (case C => assumption); (case n => exact rfl); (case s => exact rfl); intro h' ta' tb' tc' td' F' N'); (try dsimp only); (try k_sweep)))
-- the walk
local macro_rules | `(tactic| kwd_less) => `(tactic| (w_top on; (repeat' (first | (k_unmd; k_unfold; (try dsimp only)) | walk1 | (dsimp only; first | (k_unmd; k_unfold; (try dsimp only)) | walk1) | fail "no step")); (all_goals (try dsimp only))))
local macro_rules | `(tactic| walk_at "assign Tuple") => `(tactic| (k_here; (with_reducible show wpAny _ _ (assign (Expr.Tuple [_, _] _ _) _ (Value.ref _)) _ _ _); k_dflt (refine' unpackN_ ?F ?N ?I ?C ?n ?s ?_; (case F => k_asm); (case N => k_asm); (case I => exact News.isTup (by k_asm) (by k_mem)); (case C => exact Nice.hh (by assumption)); (case n => exact rfl); (case s => exact rfl); intro h' F' N'); (try dsimp only); (try k_sweep)))
local macro_rules | `(tactic| walk_at "unpackItems ref") => `(tactic| (k_here; k_dflt (refine' unpackItemsN_ ?F ?N ?I ?C ?n ?_; (case F => k_asm); (case N => k_asm); (case I => exact News.isTup (by k_asm) (by k_mem)); (case C => exact Nice.hh (by assumption)); (case n => exact rfl); intro h' F' N'); (try dsimp only); (try k_sweep)))
-- an item of a tuple of four
local macro_rules | `(tactic| walk_at "subscriptTail") => `(tactic| (k_here; (with_reducible show wpAny _ _ (subscriptTail _ _ (Value.ref _) (Value.int 0 _)) _ _ _); k_dflt (refine' item4_0 ?I ?_ ?hs; (case I => ktr_rel); (case hs => with_unfolding_all rfl)); k_whole; intro t'; (try dsimp only)))
local macro_rules | `(tactic| walk_at "subscriptTail") => `(tactic| (k_here; (with_reducible show wpAny _ _ (subscriptTail _ _ (Value.ref _) (Value.int 1 _)) _ _ _); k_dflt (refine' item4_1 ?I ?_ ?hs; (case I => ktr_rel); (case hs => with_unfolding_all rfl)); k_whole; intro t'; (try dsimp only)))
local macro_rules | `(tactic| walk_at "subscriptTail") => `(tactic| (k_here; (with_reducible show wpAny _ _ (subscriptTail _ _ (Value.ref _) (Value.int 2 _)) _ _ _); k_dflt (refine' item4_2 ?I ?_ ?hs; (case I => ktr_rel); (case hs => with_unfolding_all rfl)); k_whole; intro t'; (try dsimp only)))
local macro_rules | `(tactic| walk_at "subscriptTail") => `(tactic| (k_here; (with_reducible show wpAny _ _ (subscriptTail _ _ (Value.ref _) (Value.int 3 _)) _ _ _); k_dflt (refine' item4_3 ?I ?_ ?hs; (case I => ktr_rel); (case hs => with_unfolding_all rfl)); k_whole; intro t'; (try dsimp only)))
-- membership
local macro_rules | `(tactic| ktd_rel) => `(tactic| first | exact AreM.nil | (refine' AreM.cons ?a ?b; (case a => ktr_rel); (case b => ktd_rel)))
local macro_rules | `(tactic| walk_at "compareOp In ref ref") => `(tactic| (k_here; k_dflt (first
  | (refine' inListM ?l ?G ?J ?u ?_ ?_; (case l => exact News.isList (by k_asm) (by k_mem)); (case G => ktd_rel); (case J => ktr_rel); (case u => ktr_room))
  | (refine' inTupM ?l ?G ?J ?u ?_ ?_; (case l => exact News.isTup (by k_asm) (by k_mem)); (case G => ktd_rel); (case J => ktr_rel); (case u => ktr_room))); (all_goals (intro e'; (try simp only [List.mem_cons, List.not_mem_nil, or_false] at e'); try tb_start))))
-- a branch that the facts decide
local macro_rules | `(tactic| kwd_rel) => `(tactic| first | with_reducible assumption | (simp only [decide_eq_true_eq, decide_eq_false_iff_not, Bool.not_eq_true, Bool.not_eq_false, bne_iff_ne, beq_iff_eq, bne_eq_false_iff_eq, beq_eq_false_iff_ne, Bool.and_eq_true, Bool.or_eq_true, Bool.not_eq_true', Bool.not_eq_false', ne_eq]; omega) | omega)
local macro_rules | `(tactic| walk_at "ite") => `(tactic| (k_here; k_openite; k_dflt (first | (refine' ite_pos ?c ?_; (case c => kwd_rel)) | (refine' ite_neg ?c ?_; (case c => kwd_rel))); walk_say "CUT"))
-- a dict display by ints
local macro_rules | `(tactic| walk_at "eval Dict") => `(tactic| (k_here; k_dflt (refine' kdn_eval (knd := PySem.intKind _ _) ?F ?N ?b ?a ?l ?e ?n ?_; (case F => k_asm); (case N => k_asm); (case b => exact Top.nolimit (by k_asm)); (case a => rfl); (case l => rfl); (case e => exact List.cons_ne_nil _ _); (case n => exact Nat.le_of_ble_eq_true rfl)); intro d' h' o' F' N' l1 lo' hd'; (try k_lt l1)))
-- a written condition, ahead of all
local macro_rules | `(tactic| walk_at "ite") => `(tactic| (k_closed; k_dflt (first | refine ite_pos (by decide) ?_ | refine ite_neg (by decide) ?_)))
local macro_rules | `(tactic| walk_at "ite") => `(tactic| (k_here; first | with_reducible refine ite_tt ?_ | with_reducible refine ite_ff ?_))
-- a name of the frame's or of the top's, ahead of the kit's other lines
local macro_rules | `(tactic| walk_at "eval Name") => `(tactic| (k_here; (fail_if_success (with_reducible show wpAny _ _ (eval _ (compEnvC _ _ _ _)) _ _ _)); k_dflt (first | (refine' nameX_L ?F ?v ?_ ?a ?b; (case F => k_asm); (case a => rfl); (case b => rfl); (case v => rfl); k_whole) | (refine' nameX_K ?F ?X ?T ?e ?_ ?a ?b; (case F => k_asm); (case X => k_asm); (case T => k_asm); (case a => rfl); (case b => rfl); (case e => k_is); k_whole))))
section
variable {w : World} {A : Around} {E : Value → Shared → Prop} {s : Shared} {Q : Value → Shared → Prop}
  {p : Program} {loose : List Str} {mean : ExcName → Option Value} {mg mb : Str → Option Value} {x y : M4} {r q : Addr}


local macro_rules | `(tactic| walk_at "binaryOp Pow int int") => `(tactic| (k_here; k_dflt (refine' pow_int_small ?a ?b ?c ?_; (case a => first | omega | (k_fmods; omega)); (case b => first | omega | (k_fmods; omega)); (case c => decide))))
local macro_rules | `(tactic| walk_at "binaryOp FloorDiv int int") => `(tactic| (k_here; k_dflt (refine' floordiv_int ?b ?_ (Or.inl (PyProof.noPylong_of_log2 ?p)); (case b => decide); (case p => decide))))
local macro_rules | `(tactic| walk_at "binaryOp Mod int int") => `(tactic| (k_here; k_dflt (refine' mod_int' ?b ?_; (case b => first | decide | exact Int.pow_ne_zero (by decide)))))
theorem fm (a : Int) {b : Int} (hb : 0 < b) : 0 ≤ a.fmod b ∧ a.fmod b < b := by
  rw [Int.fmod_eq_emod_of_nonneg a (Int.le_of_lt hb)]
  exact ⟨Int.emod_nonneg a (by omega), Int.emod_lt_of_pos a hb⟩
theorem pow_b {k : Int} (h0 : 1 ≤ k) (h : k ≤ 20) : 2 ≤ (2 : Int) ^ k.toNat ∧ (2 : Int) ^ k.toNat ≤ 1048576 := by
  have : k = 1 ∨ k = 2 ∨ k = 3 ∨ k = 4 ∨ k = 5 ∨ k = 6 ∨ k = 7 ∨ k = 8 ∨ k = 9 ∨ k = 10 ∨ k = 11 ∨ k = 12 ∨ k = 13 ∨ k = 14 ∨ k = 15 ∨ k = 16 ∨ k = 17 ∨ k = 18 ∨ k = 19 ∨ k = 20 := by omega
  rcases this with rfl | rfl | rfl | rfl | rfl | rfl | rfl | rfl | rfl | rfl | rfl | rfl | rfl | rfl | rfl | rfl | rfl | rfl | rfl | rfl <;> decide
theorem raw_fin {n e m b : Int} (he : -9 ≤ e ∧ e ≤ 9) (hm : 0 < m ∧ m < 2097152) : Ok (n.fmod 2, m, e, b) := by
  have := fm n (b := 2) (by decide)
  refine .inr (.inr (.inr (.inr ⟨?_, hm.1, hm.2, he.1, he.2⟩)))
  show n.fmod 2 = 0 ∨ n.fmod 2 = 1
  omega
theorem raw_e {n : Int} : -9 ≤ n.fmod (2 * 9 + 1) - 9 ∧ n.fmod (2 * 9 + 1) - 9 ≤ 9 := by
  have := fm n (b := 2 * 9 + 1) (by decide)
  omega
theorem raw_2 {m : Int} : 0 < (2 : Int) ^ (1 + m.fmod 20).toNat - 1 ∧ (2 : Int) ^ (1 + m.fmod 20).toNat - 1 < 2097152 := by
  have h := fm m (b := 20) (by decide)
  have := pow_b (k := 1 + m.fmod 20) (by omega) (by omega)
  omega
theorem raw_3 {m : Int} : 0 < (2 : Int) ^ (1 + m.fmod (20 - 1)).toNat + 1 ∧ (2 : Int) ^ (1 + m.fmod (20 - 1)).toNat + 1 < 2097152 := by
  have h := fm m (b := 20 - 1) (by decide)
  have := pow_b (k := 1 + m.fmod (20 - 1)) (by omega) (by omega)
  omega
theorem raw_4 {m : Int} : 0 < (m.fmod ((2 : Int) ^ (1 + m.fmod 20).toNat)).fdiv 2 * 2 + 1 ∧ (m.fmod ((2 : Int) ^ (1 + m.fmod 20).toNat)).fdiv 2 * 2 + 1 < 2097152 := by
  have h := fm m (b := 20) (by decide)
  have h2 := pow_b (k := 1 + m.fmod 20) (by omega) (by omega)
  have h3 := fm m (b := (2 : Int) ^ (1 + m.fmod 20).toNat) (by omega)
  generalize m.fmod ((2 : Int) ^ (1 + m.fmod 20).toNat) = r at h3 ⊢
  rw [Int.fdiv_eq_ediv_of_nonneg r (by decide)]
  omega
theorem newTup4z {M : Model} {Q : Value → Shared → Prop} {i j k n : Int} {ti tj tk tn : Tok} {h₀ : Heap} {L : Addr} {m : Str → Option Value} {news : List (Addr × Obj)} (F : Fr h₀ L s.heap m) (N : News h₀ L s.heap news)
    (h : ∀ D h' ta tb tc td, Fr h₀ L h' m → News h₀ L h' ((D, ob4 (i, j, k, n) ta tb tc td) :: news) → s.heap.StaysIn h' → h₀.objs.size ≤ D → (∀ p ∈ news, p.1 < D) → Q (.ref D) ⟨h', s.gens, s.drawn, s.toks, s.os⟩) :
    wpAny M A (newTuple [.int i ti, .int j tj, .int k tk, .int n tn]) Q E s := by
  have z : h₀.objs.size ≤ s.heap.objs.size := by
    obtain ⟨⟨o, _, _, c, _⟩, _, f⟩ := F
    exact Nat.le_of_lt (Nat.lt_of_le_of_lt f (Heap.lt_size c))
  exact wpAny_newObj_type (h _ _ _ _ _ _ (F.push _) (N.push F _) (fun _ _ e => Heap.get?_push_of_some _ e) z (fun p hp => Heap.lt_size (N p hp).1)) (by show 4 ≤ sizeLine; decide)
local macro_rules | `(tactic| walk_at "newTuple") => `(tactic| (k_here; k_dflt (refine' newTup4z ?F ?N ?_; (case F => k_asm); (case N => k_asm); intro D' h' ta' tb' tc' td' F' N' k' z' l'; clear l'); (try dsimp only); (try dsimp only at k'); (try k_sweep)))
theorem raw_ok {n : Int} {tn ta tb : Tok} (X : (hd.heap_39 w.params).In s.heap) (T : Top p loose mean mg mb s.heap) (C : Nice 1 A)
   (h : ∀ r y h' tk' a b c d, s.heap.StaysIn h' → Made s.heap h' [(r, ob4 y a b c d)] → s.heap.objs.size ≤ r → Ok y → Q (.ref r) ⟨h', s.gens, s.drawn, tk', s.os⟩) : wpAny (model P0 w) A (call (.ref 213) [.int n tn, .int 20 ta, .int 9 tb]) Q E s := by
  have B : Binds [(Str.ofString "rich", .int n tn), (Str.ofString "bits", .int 20 ta), (Str.ofString "spread", .int 9 tb)] := trivial
  kwd_inv
  kwd_less
  all_goals refine h _ _ _ _ _ _ _ _ (Fr.keep (by assumption)) (Made.one (by assumption) (by k_mem) rfl) (by assumption) ?_
  · exact .inr (.inr (.inr (.inl rfl)))
  · exact raw_fin raw_e ⟨by decide, by decide⟩
  · exact raw_fin raw_e raw_2
  · exact raw_fin raw_e raw_3
  · exact raw_fin raw_e raw_4
theorem others2_ok (X : (hd.heap_39 w.params).In s.heap) (T : Top p loose mean mg mb s.heap) (C : Nice 1 A)
   (h : ∀ l r1 r2 r3 h' tk' a1 a2 a3 a4 b1 b2 b3 b4 c1 c2 c3 c4, s.heap.StaysIn h' → Made s.heap h' [(l, listOf #[.ref r1, .ref r2, .ref r3] 0), (r3, ob4 nan a1 a2 a3 a4), (r2, ob4 ninf b1 b2 b3 b4), (r1, ob4 inf c1 c2 c3 c4)] →
     s.heap.objs.size ≤ l → s.heap.objs.size ≤ r1 → s.heap.objs.size ≤ r2 → s.heap.objs.size ≤ r3 → Q (.ref l) ⟨h', s.gens, s.drawn, tk', s.os⟩) :
   wpAny (model P0 w) A (call (.ref 220) []) Q E s := by
  have B : Binds [] := trivial
  kwd_inv
  kwd_less
  refine h _ _ _ _ _ _ _ _ _ _ _ _ _ _ _ _ _ _ (Fr.keep (by assumption)) (Made.of (by assumption) (fun _ e => e)) ?_ ?_ ?_ ?_
  all_goals omega

theorem mixed_ok {l : Addr} {vs : List Value} {ns : List Int} {k : Int} {tk : Tok} (hl : s.heap.IsList l vs.toArray) (hi : IntsAre vs ns) (h0 : 0 ≤ k) (hk : k ≤ 3) (hlen : ¬ 63 < ns.length) (hlay : (PyData.list (List.map PyData.int ns)).layable0 = true)
   (X : (hd.heap_39 w.params).In s.heap) (T : Top p loose mean mg mb s.heap) (C : Nice 1 A)
   (h : ∀ n h' tk' t, s.heap.StaysIn h' → Q (.int n t) ⟨h', s.gens, s.drawn, tk', s.os⟩) : wpAny (model P0 w) A (call (.ref 206) [.ref l, .int k tk]) Q E s := by
  have B : Binds [(Str.ofString "script", .ref l), (Str.ofString "k", .int k tk)] := trivial
  kwd_inv
  kwd_less
  all_goals exact h _ _ _ _ (Fr.keep (by assumption))
end

end
section
/-! two rules for comprehensions: every list cell stays, but the frame's own object, whose names stay -/
section
variable {prog : Program} {w : World} {A : Around} {E : Value → Shared → Prop} {s : Shared}

/-- all but these objects stay as they are -/
def KeepX (ws : List Addr) (h h' : Heap) : Prop := ∀ b o, b ∉ ws → h.get? b = some o → h'.get? b = some o
theorem KeepX.refl (ws : List Addr) (h : Heap) : KeepX ws h h := fun _ _ _ e => e
theorem KeepX.trans {ws : List Addr} {a b c : Heap} (x : KeepX ws a b) (y : KeepX ws b c) : KeepX ws a c := fun d o n e => y d o n (x d o n e)
theorem KeepX.more {ws vs : List Addr} {a b : Heap} (x : KeepX ws a b) (k : ∀ p ∈ ws, p ∈ vs) : KeepX vs a b := fun d o n e => x d o (fun q => n (k d q)) e
theorem KeepX.of_stays {ws : List Addr} {a b : Heap} (k : a.StaysIn b) : KeepX ws a b := fun d o _ e => k d o e
theorem KeepX.of_ext {ws : List Addr} {c : Addr} {a b : Heap} (k : Heap.ExtBut c a b) (m : c ∈ ws) : KeepX ws a b := fun d o n e => k d o (fun q => n (q ▸ m)) e
theorem KeepX.get {ws : List Addr} {a b : Heap} {c : Addr} {o : Obj} (x : KeepX ws a b) (n : c ∉ ws) (e : a.get? c = some o) : b.get? c = some o := x c o n e

theorem turn2a (elt t1 i1 t2 i2 : Expr) (scope : Scope) (pos : Pos) (it acc : Value) (env : Env) :
    compTurn (.ListComp elt [⟨t1, i1, [], 0⟩, ⟨t2, i2, [], 0⟩] scope pos) 0 it acc env = (standAt i1.pos >>= fun _ => pyNext it >>= fun r => match r with
      | none => pure (.done .next)
      | some v => letOwnedTupleGo t1 it v >>= fun _ => assign t1 env v >>= fun _ =>
        (eval i2 env >>= fun x => standAt i2.pos >>= fun _ => foldedSetIterable i2 env x >>= fun x => holding [x] (pyIter x) >>= fun it' =>
          runOwn (.compStart (.ListComp elt [⟨t1, i1, [], 0⟩, ⟨t2, i2, [], 0⟩] scope pos) 1 it' acc env) env >>= fun _ =>
          again (.compLoop (.ListComp elt [⟨t1, i1, [], 0⟩, ⟨t2, i2, [], 0⟩] scope pos) 0 it acc env))) := by rfl
theorem turn2b (elt t1 i1 t2 i2 : Expr) (scope : Scope) (pos : Pos) (it acc : Value) (env : Env) :
    compTurn (.ListComp elt [⟨t1, i1, [], 0⟩, ⟨t2, i2, [], 0⟩] scope pos) 1 it acc env = (standAt i2.pos >>= fun _ => pyNext it >>= fun r => match r with
      | none => pure (.done .next)
      | some v => letOwnedTupleGo t2 it v >>= fun _ => assign t2 env v >>= fun _ =>
        (eval elt env >>= fun x => call (.builtin "list.append") [acc, x] >>= fun _ => pure ()) >>= fun _ =>
          again (.compLoop (.ListComp elt [⟨t1, i1, [], 0⟩, ⟨t2, i2, [], 0⟩] scope pos) 1 it acc env)) := by rfl

/-- the inner loop: every turn adds True -/
theorem inner_loop {elt t1 i1 i2 : Expr} {x2 : Str} {px2 : Pos} {scope : Scope} {pos : Pos} {J lr D L : Addr} {cenv : Env} {items : Array Value} {m : Str → Option Value} {R : Result → Shared → Prop} {G : Heap → Prop} {V : Value → Prop} {mc : Str → Option Value} {ys : Array Value}
    (hh : A.handled = none) (hx : cenv.kindOf x2 = some .local) (hp : (cenv.scope.kind == .class || (cenv.scope.kind == .module && cenv.locals != cenv.globals)) = false)
    (dJl : J ≠ lr) (dJC : J ≠ cenv.locals) (dJD : J ≠ D) (dJL : J ≠ L) (dlC : lr ≠ cenv.locals) (dlD : lr ≠ D) (dlL : lr ≠ L) (dCD : cenv.locals ≠ D) (dCL : cenv.locals ≠ L) (dDL : D ≠ L)
    (hit : s.heap.IsListIter J lr 0) (hl : s.heap.IsList lr items) (hD : s.heap.PlainList D ys) (hC : s.heap.Ns cenv.locals mc) (hL : s.heap.Ns L m) (hG : G s.heap)
    (gk : ∀ h h', KeepX [L, J, cenv.locals, D] h h' → h'.Ns L m → G h → G h')
    (hV : ∀ y ∈ ys, V y) (hys : ys.size + items.size ≤ sizeLine)
    (helt : ∀ (i : Nat) v (h : Heap) tk mc' (Q : Value → Shared → Prop) (E : Value → Shared → Prop), items[i]? = some v → G h → h.Ns L m → h.Ns cenv.locals mc' → mc' x2 = some v → (∀ z, z ≠ x2 → mc' z = mc z) →
      (∀ y h' tk', KeepX [L] h h' → h'.Ns L m → V y → Q y ⟨h', s.gens, s.drawn, tk', s.os⟩) → wpAny (model prog w) A (eval elt cenv) Q E ⟨h, s.gens, s.drawn, tk, s.os⟩)
    (hR : ∀ h' tk' mc' ys', KeepX [L, J, cenv.locals, D] s.heap h' → h'.Ns L m → h'.Ns cenv.locals mc' → (∀ z, z ≠ x2 → mc' z = mc z) → h'.PlainList D ys' → ys'.size = ys.size + items.size → (∀ y ∈ ys', V y) → R (.ok .next) ⟨h', s.gens, s.drawn, tk', s.os⟩) :
    codeAny (model prog w) A (.compLoop (.ListComp elt [⟨t1, i1, [], 0⟩, ⟨.Name x2 px2, i2, [], 0⟩] scope pos) 1 (.ref J) (.ref D) cenv) R s := by
  refine codeAny_loop rfl (fun k s' => ∃ h tk mc' ys' i, s' = ⟨h, s.gens, s.drawn, tk, s.os⟩ ∧ KeepX [L, J, cenv.locals, D] s.heap h ∧ h.IsListIter J lr i ∧ h.PlainList D ys' ∧ h.Ns cenv.locals mc' ∧ (∀ z, z ≠ x2 → mc' z = mc z) ∧ h.Ns L m ∧
    (∀ y ∈ ys', V y) ∧ ys'.size = ys.size + i ∧ i ≤ items.size ∧ k = items.size + 1 - i) (fun k s' hI => ?_) (items.size + 1) ⟨s.heap, s.toks, mc, ys, 0, rfl, KeepX.refl _ _, hit, hD, hC, fun _ _ => rfl, hL, hV, rfl, Nat.zero_le _, rfl⟩
  obtain ⟨h, tk, mc', ys', i, rfl, kp, hit, hD, hC, hmc, hL, hV, hsz, hi, rfl⟩ := hI
  show wpAny _ A ((compTurn (.ListComp elt [⟨t1, i1, [], 0⟩, ⟨.Name x2 px2, i2, [], 0⟩] scope pos) 1 (.ref J) (.ref D) cenv).onRaise (fun x => do noteFrame x cenv; theTreesLotGoes x)) _ _ _
  refine wpAny_noted ?_
  rw [turn2b]
  refine wpAny_bind (wpAny_standAt (wpAny_bind ?_))
  have hl' : h.IsList lr items := by
    obtain ⟨o, e, r⟩ := hl
    exact ⟨o, kp _ _ (by simp [dlC, dlD, dlL, Ne.symm dJl]) e, r⟩
  by_cases hlt : i < items.size
  · refine wpAny_pyNext_list_item hit hl' (x := items[i]) (by simp [hlt]) fun h₁ hit₁ hs₁ => ?_
    refine wpAny_bind (wpAny_of_eq (a := ()) rfl ?_)
    refine wpAny_bind (wpAny_assign_Name (wpAny_storeName_local hx (hC.sameBut hs₁ (Ne.symm dJC)) (fun h₂ hn₂ hs₂ => ?_) hp))
    have k12 : KeepX [L, J, cenv.locals, D] h h₂ := (KeepX.of_ext hs₁.extBut (by simp)).trans (KeepX.of_ext hs₂.extBut (by simp))
    have hL₂ : h₂.Ns L m := (hL.sameBut hs₁ (Ne.symm dJL)).sameBut hs₂ dCL.symm
    refine wpAny_bind (wpAny_bind (helt i items[i] h₂ _ _ _ _ (by simp [hlt]) (gk _ _ (kp.trans k12) hL₂ hG) hL₂ hn₂ (by simp) (fun z hz => by simp only [if_neg hz]; exact hmc z hz) fun y h₃ tk₃ k₃ hL₃ hy => ?_))
    have hD₃ : h₃.PlainList D ys' := by
      obtain ⟨n, e⟩ := hD
      exact ⟨n, k₃ _ _ (by simp [dDL]) (hs₂.extBut _ _ (Ne.symm dCD) (hs₁.extBut _ _ (Ne.symm dJD) e))⟩
    refine wpAny_bind (wpAny_list_append_plain (hsz := by omega) hD₃ fun h₄ hl₄ hs₄ => ?_)
    refine wpAny_pure (wpAny_pure ⟨rfl, items.size + 1 - (i + 1), by omega, h₄, tk₃, fun z => if z = x2 then some items[i] else mc' z, ys'.push y, i + 1, rfl, ?_, ?_, hl₄, ?_, (fun z hz => by simp only [if_neg hz]; exact hmc z hz), ?_, ?_, ?_, hlt, rfl⟩)
    · exact (kp.trans k12).trans ((k₃.more (by simp)).trans (KeepX.of_ext hs₄.extBut (by simp)))
    · obtain ⟨o, e, r⟩ := hit₁
      exact ⟨o, hs₄.extBut _ _ dJD (k₃ _ _ (by simp [dJL]) (hs₂.extBut _ _ dJC e)), r⟩
    · obtain ⟨o, es, ep, e, r⟩ := hn₂
      exact ⟨o, es, ep, hs₄.extBut _ _ dCD (k₃ _ _ (by simp [dCL]) e), r⟩
    · exact hL₃.sameBut hs₄ dDL.symm
    · intro z hz
      rcases Array.mem_push.mp hz with hz | rfl
      · exact hV z hz
      · exact hy
    · simp only [Array.size_push]; omega
  · have hin : i = items.size := by omega
    refine wpAny_pyNext_list_end hh hit hl' (by simp [hin]) fun h₁ hs₁ => ?_
    refine wpAny_pure (hR h₁ tk mc' ys' (kp.trans (KeepX.of_ext hs₁ (by simp))) ?_ ?_ hmc ?_ (by omega) hV)
    · obtain ⟨o, es, ep, e, r⟩ := hL
      exact ⟨o, es, ep, hs₁ _ _ (Ne.symm dJL) e, r⟩
    · obtain ⟨o, es, ep, e, r⟩ := hC
      exact ⟨o, es, ep, hs₁ _ _ (Ne.symm dJC) e, r⟩
    · obtain ⟨n, e⟩ := hD
      exact ⟨n, hs₁ _ _ (Ne.symm dJD) e⟩
end

end
section
section
variable {prog : Program} {w : World} {A : Around} {E : Value → Shared → Prop} {s : Shared}

theorem start2 {elt t1 i1 t2 i2 : Expr} {scope : Scope} {pos : Pos} {it acc : Value} {env : Env} {R : Result → Shared → Prop}
    (h0 : codeAny (model prog w) A (.compLoop (.ListComp elt [⟨t1, i1, [], 0⟩, ⟨t2, i2, [], 0⟩] scope pos) 1 it acc env) R s)
    (h : wpAny (model prog w) A (pyIter it) (fun it' s' => codeAny (model prog w) A (.compLoop (.ListComp elt [⟨t1, i1, [], 0⟩, ⟨t2, i2, [], 0⟩] scope pos) 1 it' acc env) R s')
      (notedBy (model prog w) A env fun x s' => R (.error x) s') s) :
    codeAny (model prog w) A (.compStart (.ListComp elt [⟨t1, i1, [], 0⟩, ⟨t2, i2, [], 0⟩] scope pos) 1 it acc env) R s := by
  refine codeAny_of_tree ?_
  show wpAny _ _ ((compStart (.ListComp elt [⟨t1, i1, [], 0⟩, ⟨t2, i2, [], 0⟩] scope pos) 1 it acc env).onRaise (fun x => do noteFrame x env; standAt theWindowsPlace)) _ _ s
  refine wpAny_notedAt ?_
  unfold compStart
  show wpAny _ _ (ask >>= _) _ _ s
  refine wpAny_bind (wpAny_askSetting (wpAny_ite ?_))
  split
  · first
      | exact wpAny_bind (wpAny_pure (wpAny_pure (And.intro rfl h0)))
      | exact wpAny_pure (And.intro rfl h0)
  · refine wpAny_bind (wpAny_rule ?_)
    first
      | exact wpAny_bind (wpAny_standAt (wpAny_bind (wpAny_mono h (fun it' s' h' => wpAny_pure (And.intro rfl h')) fun _ _ x => x)))
      | (show wpAny _ _ (standAt i2.pos >>= _) _ _ s
         exact wpAny_bind (wpAny_standAt (wpAny_bind (wpAny_mono h (fun it' s' h' => wpAny_pure (And.intro rfl h')) fun _ _ x => x))))

theorem start2l {elt t1 i1 t2 i2 : Expr} {scope : Scope} {pos : Pos} {it l : Addr} {i : Nat} {acc : Value} {env : Env} {R : Result → Shared → Prop} (hit : s.heap.IsListIter it l i)
    (h0 : codeAny (model prog w) A (.compLoop (.ListComp elt [⟨t1, i1, [], 0⟩, ⟨t2, i2, [], 0⟩] scope pos) 1 (.ref it) acc env) R s) :
    codeAny (model prog w) A (.compStart (.ListComp elt [⟨t1, i1, [], 0⟩, ⟨t2, i2, [], 0⟩] scope pos) 1 (.ref it) acc env) R s :=
  start2 h0 (wpAny_pyIter_listiter hit h0)

theorem keepX_new {ws : List Addr} {h h' : Heap} {a : Addr} (k : KeepX (a :: ws) h h') (n : h.get? a = none) : KeepX ws h h' := fun b o m e => k b o (fun q => by
  rcases List.mem_cons.mp q with rfl | q
  · rw [n] at e; cases e
  · exact m q) e

/-- both loops: every turn adds True -/
theorem outer_loop {elt i1 i2 : Expr} {x1 x2 : Str} {px1 px2 : Pos} {scope : Scope} {pos : Pos} {J lr D L : Addr} {cenv : Env} {items : Array Value} {m : Str → Option Value} {R : Result → Shared → Prop} {hb : Heap} {mc : Str → Option Value}
    (hh : A.handled = none) (hx1 : cenv.kindOf x1 = some .local) (hx2 : cenv.kindOf x2 = some .local) (hx : x1 ≠ x2) (hp : (cenv.scope.kind == .class || (cenv.scope.kind == .module && cenv.locals != cenv.globals)) = false)
    (hf2 : ∀ x, foldedSetIterable i2 cenv x = pure x)
    (dJl : J ≠ lr) (dJC : J ≠ cenv.locals) (dJD : J ≠ D) (dJL : J ≠ L) (dlC : lr ≠ cenv.locals) (dlD : lr ≠ D) (dlL : lr ≠ L) (dCD : cenv.locals ≠ D) (dCL : cenv.locals ≠ L) (dDL : D ≠ L)
    (bL : hb.get? L = none) (bJ : hb.get? J = none) (bC : hb.get? cenv.locals = none) (bD : hb.get? D = none)
    (hit : s.heap.IsListIter J lr 0) (hl : s.heap.IsList lr items) (hD : s.heap.PlainList D #[]) (hC : s.heap.Ns cenv.locals mc) (hL : s.heap.Ns L m) (hG : hb.StaysIn s.heap)
    (hys : items.size * items.size ≤ sizeLine)
    (hi2 : ∀ (h : Heap) tk mc' (Q : Value → Shared → Prop) (E : Value → Shared → Prop), hb.StaysIn h → h.Ns L m → h.Ns cenv.locals mc' → Q (.ref lr) ⟨h, s.gens, s.drawn, tk, s.os⟩ → wpAny (model prog w) A (eval i2 cenv) Q E ⟨h, s.gens, s.drawn, tk, s.os⟩)
    (helt : ∀ v1 v2 (h : Heap) tk mc' (Q : Value → Shared → Prop) (E : Value → Shared → Prop), v1 ∈ items → v2 ∈ items → hb.StaysIn h → h.Ns L m → h.Ns cenv.locals mc' → mc' x1 = some v1 → mc' x2 = some v2 →
      (∀ h' tk', KeepX [L] h h' → h'.Ns L m → Q (.bool true) ⟨h', s.gens, s.drawn, tk', s.os⟩) → wpAny (model prog w) A (eval elt cenv) Q E ⟨h, s.gens, s.drawn, tk, s.os⟩)
    (hR : ∀ h' tk' mc' ys', KeepX [L, J, cenv.locals, D] s.heap h' → hb.StaysIn h' → h'.Ns L m → h'.Ns cenv.locals mc' → h'.PlainList D ys' → ys'.size = items.size * items.size → (∀ y ∈ ys', y = .bool true) → R (.ok .next) ⟨h', s.gens, s.drawn, tk', s.os⟩) :
    codeAny (model prog w) A (.compLoop (.ListComp elt [⟨.Name x1 px1, i1, [], 0⟩, ⟨.Name x2 px2, i2, [], 0⟩] scope pos) 0 (.ref J) (.ref D) cenv) R s := by
  have gk : ∀ h h', KeepX [L, J, cenv.locals, D] h h' → hb.StaysIn h → hb.StaysIn h' := fun h h' k g b o e => k b o (fun q => by
    simp only [List.mem_cons, List.not_mem_nil, or_false] at q
    rcases q with q | q | q | q <;> (subst q; simp_all)) (g b o e)
  refine codeAny_loop rfl (fun k s' => ∃ h tk mc' ys' i, s' = ⟨h, s.gens, s.drawn, tk, s.os⟩ ∧ KeepX [L, J, cenv.locals, D] s.heap h ∧ h.IsListIter J lr i ∧ h.PlainList D ys' ∧ h.Ns cenv.locals mc' ∧ h.Ns L m ∧
    (∀ y ∈ ys', y = .bool true) ∧ ys'.size = i * items.size ∧ i ≤ items.size ∧ k = items.size + 1 - i) (fun k s' hI => ?_) (items.size + 1) ⟨s.heap, s.toks, mc, #[], 0, rfl, KeepX.refl _ _, hit, hD, hC, hL, by simp, by simp, Nat.zero_le _, rfl⟩
  obtain ⟨h, tk, mc', ys', i, rfl, kp, hit, hD, hC, hL, hV, hsz, hi, rfl⟩ := hI
  show wpAny _ A ((compTurn (.ListComp elt [⟨.Name x1 px1, i1, [], 0⟩, ⟨.Name x2 px2, i2, [], 0⟩] scope pos) 0 (.ref J) (.ref D) cenv).onRaise (fun x => do noteFrame x cenv; theTreesLotGoes x)) _ _ _
  refine wpAny_noted ?_
  rw [turn2a]
  refine wpAny_bind (wpAny_standAt (wpAny_bind ?_))
  have hl' : h.IsList lr items := by
    obtain ⟨o, e, r⟩ := hl
    exact ⟨o, kp _ _ (by simp [dlC, dlD, dlL, Ne.symm dJl]) e, r⟩
  by_cases hlt : i < items.size
  · refine wpAny_pyNext_list_item hit hl' (x := items[i]) (by simp [hlt]) fun h₁ hit₁ hs₁ => ?_
    refine wpAny_bind (wpAny_of_eq (a := ()) rfl ?_)
    refine wpAny_bind (wpAny_assign_Name (wpAny_storeName_local hx1 (hC.sameBut hs₁ (Ne.symm dJC)) (fun h₂ hn₂ hs₂ => ?_) hp))
    have k12 : KeepX [L, J, cenv.locals, D] h h₂ := (KeepX.of_ext hs₁.extBut (by simp)).trans (KeepX.of_ext hs₂.extBut (by simp))
    have hL₂ : h₂.Ns L m := (hL.sameBut hs₁ (Ne.symm dJL)).sameBut hs₂ dCL.symm
    have hG₂ : hb.StaysIn h₂ := gk _ _ (kp.trans k12) hG
    have hl₂ : h₂.IsList lr items := by
      obtain ⟨o, e, r⟩ := hl'
      exact ⟨o, k12 _ _ (by simp [dlC, dlD, dlL, Ne.symm dJl]) e, r⟩
    have hD₂ : h₂.PlainList D ys' := by
      obtain ⟨n, e⟩ := hD
      exact ⟨n, hs₂.extBut _ _ (Ne.symm dCD) (hs₁.extBut _ _ (Ne.symm dJD) e)⟩
    have hit₂ : h₂.IsListIter J lr (i + 1) := by
      obtain ⟨o, e, r⟩ := hit₁
      exact ⟨o, hs₂.extBut _ _ dJC e, r⟩
    refine wpAny_bind (hi2 h₂ _ _ _ _ hG₂ hL₂ hn₂ ?_)
    refine wpAny_bind (wpAny_standAt (wpAny_bind ?_))
    rw [hf2]
    refine wpAny_pure (wpAny_bind (wpAny_holding (wpAny_pyIter_list hl₂ ?_)))
    refine wpAny_bind (wpAny_runOwn ?_)
    rw [Around.mark_none]
    have old : ∀ b o, h₂.get? b = some o → (h₂.push { cls := .type "list_iterator", data := .fields #[.ref lr, .int 0 0] }).get? b = some o := fun b o e => Heap.get?_push_of_some _ e
    have nJ : h₂.get? h₂.objs.size = none := Heap.get?_none_of_le (Nat.le_refl _)
    have ne : ∀ {b o}, h₂.get? b = some o → h₂.objs.size ≠ b := fun e => Nat.ne_of_gt (Heap.lt_size e)
    refine start2l ⟨_, Heap.get?_push_size _ rfl, rfl, rfl⟩ ?_
    obtain ⟨oL, esL, epL, eL, rL⟩ := hL₂
    obtain ⟨oC, esC, epC, eC, rC⟩ := hn₂
    obtain ⟨oD, eD⟩ := hD₂
    obtain ⟨ol, el, rl⟩ := hl₂
    obtain ⟨oJ, eJ, rJ⟩ := hit₂
    refine inner_loop (G := fun h => hb.StaysIn h) (V := fun y => y = .bool true) (mc := fun z => if z = x1 then some items[i] else mc' z) (m := m) (items := items) (ys := ys') (L := L) hh hx2 hp (ne el) (ne eC) (ne eD) (ne eL) dlC dlD dlL dCD dCL dDL
      ⟨_, Heap.get?_push_size _ rfl, rfl, rfl⟩ ⟨ol, old _ _ el, rl⟩ ⟨oD, old _ _ eD⟩ ⟨oC, esC, epC, old _ _ eC, rC⟩ ⟨oL, esL, epL, old _ _ eL, rL⟩ (fun b o e => old _ _ (hG₂ b o e)) ?_ hV ?_ ?_ ?_
    · intro h h' k _ g b o e
      refine k b o (fun q => ?_) (g b o e)
      simp only [List.mem_cons, List.not_mem_nil, or_false] at q
      have := hG₂ _ _ e
      rcases q with q | q | q | q <;> (subst q; simp_all)
    · calc ys'.size + items.size = (i + 1) * items.size := by rw [hsz, Nat.succ_mul]
        _ ≤ items.size * items.size := Nat.mul_le_mul_right _ hlt
        _ ≤ sizeLine := hys
    · intro j v h₃ tk₃ mc₃ Q₃ E₃ hv g₃ l₃ c₃ x₃ z₃ k₃
      refine helt items[i] v h₃ tk₃ mc₃ Q₃ E₃ (Array.getElem_mem hlt) (Array.mem_of_getElem? hv) g₃ l₃ c₃ ?_ x₃ fun h₄ tk₄ k₄ l₄ => k₃ _ h₄ tk₄ k₄ l₄ rfl
      rw [z₃ x1 hx]; simp
    · intro h₃ tk₃ mc₃ ys₃ k₃ l₃ c₃ z₃ d₃ sz₃ v₃
      have k23 : KeepX [L, cenv.locals, D] h₂ h₃ := fun b o n e => k₃ b o (fun q => by
        simp only [List.mem_cons, List.not_mem_nil, or_false] at q n
        rcases q with q | q | q | q
        · exact n (.inl q)
        · exact ne e q.symm
        · exact n (.inr (.inl q))
        · exact n (.inr (.inr q))) (old _ _ e)
      refine wpAny_pure ⟨rfl, items.size + 1 - (i + 1), by omega, h₃, tk₃, mc₃, ys₃, i + 1, rfl, (kp.trans k12).trans (k23.more (by simp)), ⟨oJ, k23 _ _ (by simp [dJL, dJC, dJD]) eJ, rJ⟩, d₃, c₃, l₃, v₃, ?_, hlt, rfl⟩
      rw [sz₃, hsz, Nat.succ_mul]
  · have hin : i = items.size := by omega
    refine wpAny_pyNext_list_end hh hit hl' (by simp [hin]) fun h₁ hs₁ => ?_
    have k1 : KeepX [L, J, cenv.locals, D] s.heap h₁ := kp.trans (KeepX.of_ext hs₁ (by simp))
    refine wpAny_pure (hR h₁ tk mc' ys' k1 (gk _ _ k1 hG) ?_ ?_ ?_ (by rw [hsz, hin]) hV)
    · obtain ⟨o, es, ep, e, r⟩ := hL
      exact ⟨o, es, ep, hs₁ _ _ (Ne.symm dJL) e, r⟩
    · obtain ⟨o, es, ep, e, r⟩ := hC
      exact ⟨o, es, ep, hs₁ _ _ (Ne.symm dJC) e, r⟩
    · obtain ⟨n, e⟩ := hD
      exact ⟨n, hs₁ _ _ (Ne.symm dJD) e⟩
end

end
section
section
variable {prog : Program} {w : World} {A : Around} {E : Value → Shared → Prop} {s : Shared}
theorem ns_get {h : Heap} {a : Addr} {m : Str → Option Value} (n : h.Ns a m) : ∃ o, h.get? a = some o ∧ ∀ h' : Heap, h'.get? a = some o → h'.Ns a m :=
  let ⟨o, es, ep, e, r⟩ := n; ⟨o, e, fun _ e' => ⟨o, es, ep, e', r⟩⟩
theorem comp2 {elt i1 i2 : Expr} {x1 x2 : Str} {px1 px2 : Pos} {scope : Scope} {cl : List (Str × Addr)} {pos : Pos} {env : Env} {lr L : Addr} {items : Array Value} {m : Str → Option Value} {Q : Value → Shared → Prop}
    (hh : A.handled = none) (hL : s.heap.Ns L m) (hl : s.heap.IsList lr items) (hlL : lr ≠ L)
    (hys : items.size * items.size ≤ sizeLine)
    (hi1 : ∀ (Q : Value → Shared → Prop) (E : Value → Shared → Prop), Q (.ref lr) s → wpAny (model prog w) A (eval i1 env) Q E s)
    (hi2 : ∀ C (h : Heap) tk (Q : Value → Shared → Prop) (E : Value → Shared → Prop), (hideAll s.heap [L]).StaysIn h → h.Ns L m → Q (.ref lr) ⟨h, s.gens, s.drawn, tk, s.os⟩ → wpAny (model prog w) A (eval i2 (compEnvC scope cl C env)) Q E ⟨h, s.gens, s.drawn, tk, s.os⟩)
    (helt : ∀ C v1 v2 (h : Heap) tk mc (Q : Value → Shared → Prop) (E : Value → Shared → Prop), v1 ∈ items → v2 ∈ items → (hideAll s.heap [L]).StaysIn h → h.Ns L m → s.heap.get? C = none → C ≠ L → h.Ns C mc → mc x1 = some v1 → mc x2 = some v2 →
      (∀ h' tk', KeepX [L] h h' → h'.Ns L m → Q (.bool true) ⟨h', s.gens, s.drawn, tk', s.os⟩) → wpAny (model prog w) A (eval elt (compEnvC scope cl C env)) Q E ⟨h, s.gens, s.drawn, tk, s.os⟩)
    (hQ : ∀ D h' tk ys, (hideAll s.heap [L]).StaysIn h' → h'.Ns L m → h'.IsList D ys → ys.size = items.size * items.size → (∀ y ∈ ys, y = .bool true) → Q (.ref D) ⟨h', s.gens, s.drawn, tk, s.os⟩)
    (hclos : closureFor scope env = pure cl) (hcell : ∀ y ∈ scope.names, y.2 ≠ .cell) (hkind : scope.kind = .function) (hnames : ∀ y ∈ scope.names, y.2 = .local → scope.names.lookup y.1 = some .local)
    (hx1 : scope.names.lookup x1 = some .local) (hx2 : scope.names.lookup x2 = some .local) (hx : x1 ≠ x2)
    (hs : ∀ x, foldedSetIterable i1 env x = pure x := by intro _; rfl) (hf2 : ∀ env x, foldedSetIterable i2 env x = pure x := by intro _ _; rfl) :
    wpAny (model prog w) A (eval (.ListComp elt [⟨.Name x1 px1, i1, [], 0⟩, ⟨.Name x2 px2, i2, [], 0⟩] scope pos) env) Q E s := by
  rw [eval_ListComp]
  refine wpAny_comprehension_free (use := none) rfl hs hclos hkind hnames (hi1 _ _ ?_)
  refine wpAny_pyIter_list hl ?_
  refine wpAny_newObj_type (wpAny_newFunctionEnv hcell (by intro y hy; simp at hy) (fun h₁ hns₁ hsb₁ => ?_) hkind)
  dsimp only at hns₁ hsb₁ ⊢
  obtain ⟨oL, eL, rL⟩ := ns_get hL
  obtain ⟨ol, el, rl⟩ := hl
  have LJ : @LT.lt Nat _ L s.heap.objs.size := Heap.lt_size eL
  have lJ : @LT.lt Nat _ lr s.heap.objs.size := Heap.lt_size el
  generalize hH1 : s.heap.push { cls := .type "list_iterator", data := .fields #[.ref lr, .int 0 0] } = H1 at hns₁ hsb₁ ⊢
  have sz1 : H1.objs.size = s.heap.objs.size + 1 := by rw [← hH1, Heap.size_push]
  have up1 : ∀ b o, s.heap.get? b = some o → H1.get? b = some o := fun b o e => hH1 ▸ Heap.get?_push_of_some _ e
  have J1 : H1.get? s.heap.objs.size = some { cls := .type "list_iterator", data := .fields #[.ref lr, .int 0 0] } := hH1 ▸ Heap.get?_push_size _ rfl
  generalize hH2 : H1.push { cls := .type "list", dict := none, data := .seq ([] : List Value).toArray } = H2 at hns₁ hsb₁ ⊢
  have sz2 : H2.objs.size = s.heap.objs.size + 1 + 1 := by rw [← hH2, Heap.size_push, sz1]
  have up2 : ∀ b o, H1.get? b = some o → H2.get? b = some o := fun b o e => hH2 ▸ Heap.get?_push_of_some _ e
  have D2 : H2.get? H1.objs.size = some { cls := .type "list", dict := none, data := .seq ([] : List Value).toArray } := hH2 ▸ Heap.get?_push_size _ rfl
  have new : ∀ {a : Addr}, s.heap.objs.size ≤ a → s.heap.get? a = none := fun h => Heap.get?_none_of_le h
  have hide : ∀ {a : Addr}, s.heap.get? a = none → (hideAll s.heap [L]).get? a = none := fun {a} h => by
    cases q : (hideAll s.heap [L]).get? a with
    | none => rfl
    | some o => rw [of_hideAll _ q] at h; cases h
  have up3 : ∀ b o, b ≠ H2.objs.size → H2.get? b = some o → h₁.get? b = some o := fun b o n e => hsb₁.extBut b o n (Heap.get?_push_of_some _ e)
  have C0 : s.heap.get? H2.objs.size = none := new (by rw [sz2]; omega)
  have D0 : s.heap.get? H1.objs.size = none := new (by rw [sz1]; omega)
  have n1 : (s.heap.objs.size : Nat) ≠ lr := Nat.ne_of_gt lJ
  have n2 : (s.heap.objs.size : Nat) ≠ H2.objs.size := by rw [sz2]; omega
  have n3 : (s.heap.objs.size : Nat) ≠ H1.objs.size := by rw [sz1]; omega
  have n4 : (s.heap.objs.size : Nat) ≠ L := Nat.ne_of_gt LJ
  have n5 : lr ≠ H2.objs.size := by rw [sz2]; exact Nat.ne_of_lt (Nat.lt_of_lt_of_le (by assumption) (by omega))
  have n6 : lr ≠ H1.objs.size := by rw [sz1]; exact Nat.ne_of_lt (Nat.lt_of_lt_of_le (by assumption) (by omega))
  have n7 : H2.objs.size ≠ H1.objs.size := by rw [sz2, sz1]; omega
  have n8 : H2.objs.size ≠ L := by rw [sz2]; exact Nat.ne_of_gt (Nat.lt_of_lt_of_le LJ (by omega))
  have n9 : H1.objs.size ≠ L := by rw [sz1]; exact Nat.ne_of_gt (Nat.lt_of_lt_of_le LJ (by omega))
  have old : ∀ b o, s.heap.get? b = some o → h₁.get? b = some o := fun b o e => up3 b o (by
    have := Heap.lt_size e
    rw [sz2]; exact Nat.ne_of_lt (Nat.lt_of_lt_of_le (by assumption) (by omega))) (up2 _ _ (up1 _ _ e))
  have hit₁ : h₁.IsListIter s.heap.objs.size lr 0 := ⟨_, up3 _ _ n2 (up2 _ _ J1), rfl, rfl⟩
  have loop : ∀ s₃ : Shared, s₃ = { s with heap := h₁, toks := s.toks + ([] : List (Str × Value)).length } →
      codeAny (model prog w) A (.compLoop (.ListComp elt [⟨.Name x1 px1, i1, [], 0⟩, ⟨.Name x2 px2, i2, [], 0⟩] scope pos) 0 (.ref s.heap.objs.size) (.ref H1.objs.size) (compEnvC scope cl H2.objs.size env))
        (compPost (model prog w) A E none Q (.ref H1.objs.size) H2.objs.size) s₃ := by
    rintro s₃ rfl
    refine outer_loop (cenv := compEnvC scope cl H2.objs.size env) (hb := hideAll s.heap [L]) (m := m) (L := L) (items := items) hh (lookup_relabel_local hx1) (lookup_relabel_local hx2) hx (by simp [compEnvC, relabel, hkind]) (hf2 _)
      n1 n2 n3 n4 n5 n6 hlL n7 n8 n9 (hideAll_none _ (.head _)) (hide (new (Nat.le_refl _))) (hide C0) (hide D0) hit₁ ⟨ol, old _ _ el, rl⟩ ⟨_, up3 _ _ (Ne.symm n7) D2⟩ hns₁ (rL _ (old _ _ eL)) (fun b o e => old b o (of_hideAll _ e)) hys
      (fun h tk mc' Q E g l _ q => hi2 _ h tk Q E g l q)
      (fun v1 v2 h tk mc' Q E m1 m2 g l c y1 y2 q => helt _ v1 v2 h tk mc' Q E m1 m2 g l C0 n8 c y1 y2 q) ?_
    intro h' tk' mc' ys' _ g l c d sz v
    refine ⟨mc', c, fun h'' hs'' => ?_⟩
    refine hQ _ h'' tk' ys' (fun b o e => hs''.extBut b o (fun q => ?_) (g b o e)) (l.sameBut hs'' (Ne.symm n8)) ?_ sz v
    · subst q
      rw [hide C0] at e; cases e
    · exact d.isList.extBut hs''.extBut (Ne.symm n7)
  exact codeAny_compStart_list (loop _ rfl) (wpAny_pyIter_listiter hit₁ (loop _ rfl))
end

end
section
section
variable {w : World} {A : Around} {E : Value → Shared → Prop} {s : Shared} {Q : Value → Shared → Prop}
  {p : Program} {loose : List Str} {mean : ExcName → Option Value} {mg mb : Str → Option Value} {x y : M4} {r q : Addr}
  {h₀ g h : Heap} {L : Addr} {m : Str → Option Value} {news : List (Addr × Obj)} {A₀ : Around} {env : Env}

theorem not_frame (F : Fr h₀ L g m) {b : Addr} {o : Obj} (e : h₀.get? b = some o) : b ∉ [L] := fun q => by
  rcases List.mem_singleton.mp q with rfl
  exact Nat.lt_irrefl _ (Nat.lt_of_lt_of_le (Heap.lt_size e) F.above)
theorem stays_law (F : Fr h₀ L g m) : h₀.StaysIn (hideAll g [L]) := fun b o e => hideAll_get _ (F.keep b o e) (not_frame F e)
theorem fr_of (F : Fr h₀ L g m) (k : (hideAll g [L]).StaysIn h) (n : h.Ns L m) : Fr h₀ L h m := ⟨n, fun b o e => k b o (stays_law F b o e), F.above⟩
theorem news_of (N : News h₀ L g news) (k : (hideAll g [L]).StaysIn h) : News h₀ L h news := fun p hp =>
  ⟨k _ _ (hideAll_get _ (N p hp).1 (fun q => (N p hp).2.1 (List.mem_singleton.mp q))), (N p hp).2⟩
theorem news_cons {C : Addr} {oC : Obj} (F : Fr h₀ L g m) (N : News h₀ L h news) (e : h.get? C = some oC) (c : g.get? C = none) (n : C ≠ L) : News h₀ L h ((C, oC) :: news) := fun p hp => by
  rcases List.mem_cons.mp hp with rfl | hp
  · refine ⟨e, n, ?_⟩
    cases q : h₀.get? C with
    | none => rfl
    | some o => have := F.keep _ _ q; rw [c] at this; cases this
  · exact N p hp
theorem isM_hide (I : IsM g r x) (n : g.Ns L m) : IsM (hideAll g [L]) r x := by
  obtain ⟨a, b, c, d, o, ho, hc, k, hd⟩ := I
  refine ⟨a, b, c, d, o, hideAll_get _ ho (fun q => ?_), hc, k, hd⟩
  rcases List.mem_singleton.mp q with rfl
  obtain ⟨oL, es, ep, e, f, _⟩ := n
  rw [ho] at e; cases e
  rw [hd] at f; cases f
theorem below_law (K : Below A₀ h₀ [] h₀) (F : Fr h₀ L g m) (hf : env.frame = some L) (hk : env.scope.kind = .function) : Below (A₀.deeper env) (hideAll g [L]) [env] g :=
  ⟨Around.frames_deeper K.stack, fun b o e => of_hideAll _ e, .cons (by rw [hk]; decide) hf F.ns (hideAll_none _ (.head _)) trivial⟩
theorem keepX_hide {h : Heap} (k : (hideAll g [L]).StaysIn h) : KeepX [L] g h := fun b o n e => k b o (hideAll_get _ e n)
theorem hide_size {h : Heap} : (hideAll h [L]).objs.size ≤ h.objs.size := Nat.le_of_eq (hideAll_size _ _)

theorem two_law {pr : Int} {tp : Tok} {rv : Value} (K : Below A₀ h₀ [] h₀) (F : Fr h₀ L s.heap m) (hf : env.frame = some L) (hk : env.scope.kind = .function) (X : (hd.heap_39 w.params).In h₀) (T : Top p loose mean mg mb h₀) (C : Nice 4 (A₀.deeper env))
   (I : IsM s.heap r x) (J : IsM s.heap q y) (ox : Ok x) (oy : Ok y) (hp1 : 1 ≤ pr) (hp2 : pr ≤ 60)
   (h : ∀ h' tk', KeepX [L] s.heap h' → h'.Ns L m → Q (.bool true) ⟨h', s.gens, s.drawn, tk', s.os⟩) : wpAny (model P0 w) (A₀.deeper env) (call (.ref 290) [.ref r, .ref q, .int pr tp, rv]) Q E s := by
  by_cases hy : y = zero
  · exact twoz_ok (below_law K F hf hk) hide_size (X.keeps (stays_law F)) (T.keeps (stays_law F)) C I J ox hy hp1 hp2 fun h' tk' k u => h h' tk' (keepX_hide k) (u.ns F.ns)
  · exact two_ok (X.keeps F.keep) (T.keeps F.keep) C I J ox oy hy hp1 hp2 fun h' tk' k => h h' tk' (KeepX.of_stays k) (F.ns.keeps k)
theorem overi0_law {n pr : Int} {tn tp : Tok} {rv : Value} (K : Below A₀ h₀ [] h₀) (F : Fr h₀ L s.heap m) (N : News h₀ L s.heap news) (hf : env.frame = some L) (hk : env.scope.kind = .function) (X : (hd.heap_39 w.params).In h₀) (T : Top p loose mean mg mb h₀) (C : Nice 5 (A₀.deeper env))
   (J : IsM s.heap q zero) (h1 : -9 ≤ n) (h2 : n ≤ 9)
   (h : ∀ h' tk', Fr h₀ L h' m → News h₀ L h' news → Q .none ⟨h', s.gens, s.drawn, tk', s.os⟩) : wpAny (model P0 w) (A₀.deeper env) (call (.ref 276) [.ref r, .ref q, .int pr tp, rv, .int n tn]) Q E s :=
  overi0_ok (below_law K F hf hk) hide_size (X.keeps (stays_law F)) (T.keeps (stays_law F)) C J h1 h2 fun h' tk' k u => h h' tk' (fr_of F k (u.ns F.ns)) (news_of N k)
theorem root0_law {pr : Int} {tp : Tok} {rv : Value} (K : Below A₀ h₀ [] h₀) (F : Fr h₀ L s.heap m) (N : News h₀ L s.heap news) (hf : env.frame = some L) (hk : env.scope.kind = .function) (X : (hd.heap_39 w.params).In h₀) (T : Top p loose mean mg mb h₀) (C : Nice 2 (A₀.deeper env))
   (J : IsM s.heap r ninf)
   (h : ∀ h' tk', Fr h₀ L h' m → News h₀ L h' news → Q .none ⟨h', s.gens, s.drawn, tk', s.os⟩) : wpAny (model P0 w) (A₀.deeper env) (call (.ref 283) [.ref r, .int pr tp, rv]) Q E s :=
  root0_ok (below_law K F hf hk) hide_size (X.keeps (stays_law F)) (T.keeps (stays_law F)) C J fun h' tk' k u => h h' tk' (fr_of F k (u.ns F.ns)) (news_of N k)

theorem areM_mem {h : Heap} : ∀ {vs : List Value} {xs : List M4}, AreM h vs xs → ∀ v ∈ vs, ∃ r x, x ∈ xs ∧ v = .ref r ∧ IsM h r x
  | _, _, .cons I _, _, .head _ => ⟨_, _, .head _, rfl, I⟩
  | _, _, .cons _ r, _, .tail _ m => let ⟨a, b, c, d⟩ := areM_mem r _ m; ⟨a, b, .tail _ c, d⟩
theorem bools_true : ∀ {vs : List Value}, (∀ y ∈ vs, y = .bool true) → LSm.BoolsAre vs (List.replicate vs.length true)
  | [], _ => .nil
  | v :: vs, h => by
    have := h v (.head _)
    subst this
    exact .cons true (bools_true fun y hy => h y (.tail _ hy))
theorem all_true {D : Addr} {ys : Array Value} (F : Fr h₀ L s.heap m) (N : News h₀ L s.heap news) (hh : A.handled = none) (hl : s.heap.IsList D ys) (hv : ∀ y ∈ ys, y = .bool true)
    (h : ∀ h' tk, Fr h₀ L h' m → News h₀ L h' news → Q (.bool true) ⟨h', s.gens, s.drawn, tk, s.os⟩) : wpAny (model P0 w) A (call (.builtin "all") [.ref D]) Q E s := by
  refine LSm.all_bools (vs := ys.toList) F N hh hl (bools_true fun y hy => hv y (by simpa using hy)) fun h' tk F' N' => ?_
  have e : (List.replicate ys.toList.length true).all id = true := by simp
  rw [e]
  exact h h' tk F' N'
theorem prec_ok (a : Int) : 1 ≤ 1 + a.fmod 60 ∧ 1 + a.fmod 60 ≤ 60 := by have := fm a (b := 60) (by decide); omega
theorem num_ok (a : Int) : -9 ≤ a.fmod 19 - 9 ∧ a.fmod 19 - 9 ≤ 9 := by have := fm a (b := 19) (by decide); omega
theorem ok_inf : Ok inf := .inl rfl
theorem ok_ninf : Ok ninf := .inr (.inl rfl)
theorem ok_nan : Ok nan := .inr (.inr (.inl rfl))
theorem ok_zero : Ok zero := .inr (.inr (.inr (.inl rfl)))
/-- the rows' items -/
def RowsAre (g : Heap) (vs : List Value) : Prop := ∀ v ∈ vs, ∃ r x, v = .ref r ∧ IsM g r x ∧ Ok x
theorem rows_nil : RowsAre g [] := fun _ h => nomatch h
theorem rows_cons {vs : List Value} (I : IsM g r x) (o : Ok x) (R : RowsAre g vs) : RowsAre g (.ref r :: vs) := fun v hv => by
  rcases List.mem_cons.mp hv with rfl | hv
  · exact ⟨_, _, rfl, I, o⟩
  · exact R v hv
theorem rows_mem {vs : List Value} {v : Value} (hv : v ∈ vs.toArray) (R : RowsAre g vs) (F : Fr h₀ L g m) (k : (hideAll g [L]).StaysIn h) : ∃ r x, v = .ref r ∧ IsM h r x ∧ Ok x := by
  obtain ⟨r, x, e, I, o⟩ := R v (List.mem_toArray.mp hv)
  exact ⟨r, x, e, (isM_hide I F.ns).stay k, o⟩
theorem news_ne {a : Addr} {o : Obj} (N : News h₀ L h news) (hm : (a, o) ∈ news) : a ≠ L := (N _ hm).2.1
theorem two_done {g' : Array GenState} {d : Drawn} {o : OsState} {h' : Heap} {tk : Nat} (q : ∀ h' tk', KeepX [L] g h' → h'.Ns L m → Q (.bool true) ⟨h', g', d, tk', o⟩) (k : KeepX [L] g h') (n : h'.Ns L m) : Q (.bool true) ⟨h', g', d, tk, o⟩ := q _ _ k n
end

end
section
local macro_rules | `(tactic| k_mem) => `(tactic| with_reducible assumption)
-- a tuple's fact
local macro_rules | `(tactic| ktr_rel) => `(tactic| first
  | with_reducible assumption
  | exact IsM.of_tup (Fr.tup (by k_asm) (by with_reducible assumption))
  | exact IsM.stay (Fr.keep (by k_asm)) (by with_reducible assumption)
  | exact IsM.of_news (by k_asm) (by k_mem)
  | exact IsM.of_newsO (by k_asm) (by k_mem) (by with_reducible assumption)
  | exact inf_at (by k_in)
  | exact ninf_at (by k_in)
  | exact nan_at (by k_in)
  | exact zero_at (by k_in)
  | exact one_at (by k_in)
  | exact IsM.stay (by with_reducible assumption) (by with_reducible assumption))
-- room
local macro_rules | `(tactic| ktr_room) => `(tactic| first | exact Nice.room (by assumption) | exact Nice.room1 (by assumption))
-- an absurd way
local macro_rules | `(tactic| ktr_unf) => `(tactic| first | exact absurd rfl (by assumption) | skip)
-- entering a def
local macro_rules | `(tactic| kwd_inv) => `(tactic| (
  refine' enter ?B ?X ?T ?C ?ho ?hcd ?hbind ?hloc ?_ ?c2 ?c3 ?c4 ?c5
  (case B => assumption)
  (case X => assumption)
  (case T => exact topRead_of (by assumption))
  (case C => assumption)
  (case ho => k_is)
  (case hcd => k_is)
  (case hbind => first | exact BindsAt.at (by assumption) (by k_is) | exact BindsTo.of_eq rfl | exact binds_K (by assumption) rfl (by k_is) rfl rfl rfl)
  (case hloc => exact locs rfl)
  (case c2 => exact rfl)
  (case c3 => exact rfl)
  (case c4 => exact rfl)
  (case c5 => decide)
  intro L' h' tk' F' N' C'
  (try dsimp only [List.reverse_cons, List.reverse_nil, List.nil_append, List.cons_append])
  (try dsimp only [List.reverse_cons, List.reverse_nil, List.nil_append, List.cons_append] at F')
  (try k_fold)))
-- a store
local macro_rules | `(tactic| walk_at "storeName") => `(tactic| (k_here; k_dflt (refine' storeT ?F ?N ?_ ?a ?b; (case F => k_asm); (case N => k_asm); (case a => rfl); (case b => rfl); k_whole; intro h' tk' F' N'); (try dsimp only); (try k_sweep)))
-- a new tuple of four ints
local macro_rules | `(tactic| walk_at "newTuple") => `(tactic| (k_here; k_dflt (refine' newTup4 ?F ?N ?_; (case F => k_asm); (case N => k_asm); intro D' h' ta' tb' tc' td' F' N' k'); (try dsimp only); (try dsimp only at k'); (try k_sweep)))
-- comparisons
local macro_rules | `(tactic| walk_at "compareOp Eq ref ref") => `(tactic| (k_here; k_dflt (refine' eqM ?I ?J ?u ?_ ?_; (case I => ktr_rel); (case J => ktr_rel); (case u => ktr_room)); (all_goals (intro e'; try tb_start))))
local macro_rules | `(tactic| walk_at "compareOp NotEq ref ref") => `(tactic| (k_here; k_dflt (refine' neM ?I ?J ?u ?_ ?_; (case I => ktr_rel); (case J => ktr_rel); (case u => ktr_room)); (all_goals (intro e'; try tb_start))))
local macro_rules | `(tactic| tb_start) => `(tactic| first | exact absurd rfl (by assumption) | (exfalso; omega) | (exfalso; law_clear; simp_all; done))
-- unpacking
local macro_rules | `(tactic| walk_at "assign Tuple") => `(tactic| (k_here; (with_reducible show wpAny _ _ (assign (Expr.Tuple _ _ _) _ (Value.ref _)) _ _ _); k_dflt (refine' unpackM ?F ?N ?I ?C ?n ?s ?_; (case F => k_asm); (case N => k_asm); (case I => ktr_rel); (case C => assumption); (case n => exact rfl); (case s => exact rfl); intro h' ta' tb' tc' td' F' N'); (try dsimp only); (try k_sweep)))
-- the walk
local macro_rules | `(tactic| kwd_less) => `(tactic| (w_top on; (repeat' (first | (k_unmd; k_unfold; (try dsimp only)) | walk1 | (dsimp only; first | (k_unmd; k_unfold; (try dsimp only)) | walk1) | fail "no step")); (all_goals (try dsimp only))))
local macro_rules | `(tactic| walk_at "assign Tuple") => `(tactic| (k_here; (with_reducible show wpAny _ _ (assign (Expr.Tuple [_, _] _ _) _ (Value.ref _)) _ _ _); k_dflt (refine' unpackN_ ?F ?N ?I ?C ?n ?s ?_; (case F => k_asm); (case N => k_asm); (case I => exact News.isTup (by k_asm) (by k_mem)); (case C => exact Nice.hh (by assumption)); (case n => exact rfl); (case s => exact rfl); intro h' F' N'); (try dsimp only); (try k_sweep)))
local macro_rules | `(tactic| walk_at "unpackItems ref") => `(tactic| (k_here; k_dflt (refine' unpackItemsN_ ?F ?N ?I ?C ?n ?_; (case F => k_asm); (case N => k_asm); (case I => exact News.isTup (by k_asm) (by k_mem)); (case C => exact Nice.hh (by assumption)); (case n => exact rfl); intro h' F' N'); (try dsimp only); (try k_sweep)))
-- an item of a tuple of four
local macro_rules | `(tactic| walk_at "subscriptTail") => `(tactic| (k_here; (with_reducible show wpAny _ _ (subscriptTail _ _ (Value.ref _) (Value.int 0 _)) _ _ _); k_dflt (refine' item4_0 ?I ?_ ?hs; (case I => ktr_rel); (case hs => with_unfolding_all rfl)); k_whole; intro t'; (try dsimp only)))
local macro_rules | `(tactic| walk_at "subscriptTail") => `(tactic| (k_here; (with_reducible show wpAny _ _ (subscriptTail _ _ (Value.ref _) (Value.int 1 _)) _ _ _); k_dflt (refine' item4_1 ?I ?_ ?hs; (case I => ktr_rel); (case hs => with_unfolding_all rfl)); k_whole; intro t'; (try dsimp only)))
local macro_rules | `(tactic| walk_at "subscriptTail") => `(tactic| (k_here; (with_reducible show wpAny _ _ (subscriptTail _ _ (Value.ref _) (Value.int 2 _)) _ _ _); k_dflt (refine' item4_2 ?I ?_ ?hs; (case I => ktr_rel); (case hs => with_unfolding_all rfl)); k_whole; intro t'; (try dsimp only)))
local macro_rules | `(tactic| walk_at "subscriptTail") => `(tactic| (k_here; (with_reducible show wpAny _ _ (subscriptTail _ _ (Value.ref _) (Value.int 3 _)) _ _ _); k_dflt (refine' item4_3 ?I ?_ ?hs; (case I => ktr_rel); (case hs => with_unfolding_all rfl)); k_whole; intro t'; (try dsimp only)))
-- membership
local macro_rules | `(tactic| ktd_rel) => `(tactic| first | exact AreM.nil | (refine' AreM.cons ?a ?b; (case a => ktr_rel); (case b => ktd_rel)))
local macro_rules | `(tactic| walk_at "compareOp In ref ref") => `(tactic| (k_here; k_dflt (first
  | (refine' inListM ?l ?G ?J ?u ?_ ?_; (case l => exact News.isList (by k_asm) (by k_mem)); (case G => ktd_rel); (case J => ktr_rel); (case u => ktr_room))
  | (refine' inTupM ?l ?G ?J ?u ?_ ?_; (case l => exact News.isTup (by k_asm) (by k_mem)); (case G => ktd_rel); (case J => ktr_rel); (case u => ktr_room))); (all_goals (intro e'; (try simp only [List.mem_cons, List.not_mem_nil, or_false] at e'); try tb_start))))
-- a branch that the facts decide
local macro_rules | `(tactic| kwd_rel) => `(tactic| first | with_reducible assumption | (simp only [decide_eq_true_eq, decide_eq_false_iff_not, Bool.not_eq_true, Bool.not_eq_false, bne_iff_ne, beq_iff_eq, bne_eq_false_iff_eq, beq_eq_false_iff_ne, Bool.and_eq_true, Bool.or_eq_true, Bool.not_eq_true', Bool.not_eq_false', ne_eq]; omega) | omega)
local macro_rules | `(tactic| walk_at "ite") => `(tactic| (k_here; k_openite; k_dflt (first | (refine' ite_pos ?c ?_; (case c => kwd_rel)) | (refine' ite_neg ?c ?_; (case c => kwd_rel))); walk_say "CUT"))
-- a dict display by ints
local macro_rules | `(tactic| walk_at "eval Dict") => `(tactic| (k_here; k_dflt (refine' kdn_eval (knd := PySem.intKind _ _) ?F ?N ?b ?a ?l ?e ?n ?_; (case F => k_asm); (case N => k_asm); (case b => exact Top.nolimit (by k_asm)); (case a => rfl); (case l => rfl); (case e => exact List.cons_ne_nil _ _); (case n => exact Nat.le_of_ble_eq_true rfl)); intro d' h' o' F' N' l1 lo' hd'; (try k_lt l1)))
-- a written condition, ahead of all
local macro_rules | `(tactic| walk_at "ite") => `(tactic| (k_closed; k_dflt (first | refine ite_pos (by decide) ?_ | refine ite_neg (by decide) ?_)))
local macro_rules | `(tactic| walk_at "ite") => `(tactic| (k_here; first | with_reducible refine ite_tt ?_ | with_reducible refine ite_ff ?_))
-- a name of the frame's or of the top's, ahead of the kit's other lines
local macro_rules | `(tactic| walk_at "eval Name") => `(tactic| (k_here; (fail_if_success (with_reducible show wpAny _ _ (eval _ (compEnvC _ _ _ _)) _ _ _)); k_dflt (first | (refine' nameX_L ?F ?v ?_ ?a ?b; (case F => k_asm); (case a => rfl); (case b => rfl); (case v => rfl); k_whole) | (refine' nameX_K ?F ?X ?T ?e ?_ ?a ?b; (case F => k_asm); (case X => k_asm); (case T => k_asm); (case a => rfl); (case b => rfl); (case e => k_is); k_whole))))
theorem lawNice {env : Env} : Nice 12 (callerA.deeper env) := ⟨by show callerA.depth + 1 + 12 < _; decide, by show callerA.units + 3 + 8 * 12 + 200 < _; decide, rfl⟩
theorem withNice {M : Model} {env : Env} {α : Type} {t : Sem α} {Q : α → Shared → Prop} {E : Value → Shared → Prop} {s : Shared} (h : Nice 12 (callerA.deeper env) → wpAny M (callerA.deeper env) t Q E s) : wpAny M (callerA.deeper env) t Q E s := h lawNice
theorem itemAny {prog : Program} {w : World} {A : Around} {E : Value → Shared → Prop} {s : Shared} {value slice : PySem.Expr} {l : Addr} {its : Array Value} {k : Int} {u : Tok} {Q : Value → Shared → Prop}
    (hl : s.heap.IsList l its) (h0 : 0 ≤ k) (hk : k < its.size) (hs2 : its.size < 100) (h : ∀ v, Q v s)
    (hs : subscripted slice false (.ref l) (.int k u) = operate [.ref l, .int k u] (getItem (.ref l) (.int k u)) := by with_unfolding_all rfl) :
    wpAny (model prog w) A (subscriptTail value slice (.ref l) (.int k u)) Q E s := by
  have hx : its[k.toNat]? = some (its[k.toNat]'(by omega)) := Array.getElem?_eq_getElem _
  exact tail_any hl.typeIs slot_list_getitem.lookup (wpAny_getItem_list hl h0 (by omega) hx (h _)) hs
theorem made_below {h₀ h : Heap} {L r : Addr} {news : List (Addr × Obj)} (N : News h₀ L h news) (z : h.objs.size ≤ r) : ∀ p ∈ news, p.1 < r := fun p hp => Nat.lt_of_lt_of_le (Heap.lt_size (N p hp).1) z
theorem allLt_off {r I C D : Addr} {oI oC oD : Obj} {news : List (Addr × Obj)} (l : ∀ p ∈ (I, oI) :: (C, oC) :: (D, oD) :: news, p.1 < r) : (@Ne Nat r I) ∧ (@Ne Nat r C) ∧ (@Ne Nat r D) :=
  ⟨Nat.ne_of_gt (l _ (.head _)), Nat.ne_of_gt (l _ (.tail _ (.head _))), Nat.ne_of_gt (l _ (.tail _ (.tail _ (.head _))))⟩
section
variable {h₀ : Heap} {L I C D : Addr} {m : Str → Option Value} {s₁ : Shared} {oI oC oD : Obj} {S : List (Addr × Obj) → Prop} {rest : Value → List (Addr × Obj) → Prop} {y : Value} {h' : Heap} {tk : Nat} {news : List (Addr × Obj)}
theorem compEnd0 (F : Fr h₀ L h' m) (N : News h₀ L h' ((I, oI) :: (C, oC) :: (D, oD) :: news)) (off : LCg.Off3 I C D news) (hS : S news) (r : rest y news) :
    LCg.CompEnd h₀ L m s₁ I oI C oC D oD S rest y { s₁ with heap := h', toks := tk } := ⟨h', tk, news, rfl, F, N, off, hS, r⟩
theorem compEnd1 {q : Addr} {o : Obj} (F : Fr h₀ L h' m) (N : News h₀ L h' ((q, o) :: (I, oI) :: (C, oC) :: (D, oD) :: news)) (off : LCg.Off3 I C D news) (l : ∀ p ∈ (I, oI) :: (C, oC) :: (D, oD) :: news, p.1 < q) (hS : S ((q, o) :: news)) (r : rest y ((q, o) :: news)) :
    LCg.CompEnd h₀ L m s₁ I oI C oC D oD S rest y { s₁ with heap := h', toks := tk } := by
  refine ⟨h', tk, (q, o) :: news, rfl, F, fun p hp => N p ?_, ⟨allLt_off l, off⟩, hS, r⟩
  simp only [List.mem_cons] at hp ⊢
  rcases hp with h | h | h | h | h
  · exact .inr (.inl h)
  · exact .inr (.inr (.inl h))
  · exact .inr (.inr (.inr (.inl h)))
  · exact .inl h
  · exact .inr (.inr (.inr (.inr h)))
end
local macro_rules | `(tactic| walk_at "CompEnd") => `(tactic| (k_dflt (first
  | (refine' compEnd1 ?F ?N ?o ?l ?s ?_; (case F => k_asm); (case N => k_asm); (case o => assumption); (case l => assumption); (case s => lcg_src))
  | (refine' compEnd0 ?F ?N ?o ?s ?_; (case F => k_asm); (case N => k_asm); (case o => assumption); (case s => lcg_src)))))
local macro_rules | `(tactic| walk_at "CompRest") => `(tactic| (with_unfolding_all first
  | (refine LCg.CompRest.succ ?_; intro v' I' oI' C' oC' D' m' h' tk' E' hv' hC' hx' F' N' off' ne'; (first | lcg_open hv' | (obtain ⟨t9', hv9'⟩ := hv'; subst hv9')))
  | refine LCg.CompRest.zero ?_))
local macro_rules | `(tactic| walk_at "FinE") => `(tactic| ((unfold LCg.FinE); intro D' h' tk' F' N' o1'; (try simp only [List.nil_append, List.cons_append] at N'); (try dsimp only)))
local macro_rules | `(tactic| walk_at "newTuple") => `(tactic| (k_here; k_dflt (refine' newTup4z ?F ?N ?_; (case F => k_asm); (case N => k_asm); intro D' h' ta' tb' tc' td' F' N' k' z' l'; k_lt l'; clear z' k'); (try dsimp only); (try k_sweep)))
local macro_rules | `(tactic| walk_at "subscriptTail List cons BinOp ref int") => `(tactic| (k_here; (with_reducible show wpAny _ _ (subscriptTail _ _ (Value.ref _) (Value.int (Int.fmod _ 5) _)) _ _ _); k_dflt (refine' itemAny ?l ?h0 ?hk ?h2 ?_ ?hs; (case l => is_list); (case h0 => exact (fm _ (by decide)).1); (case hk => (show _ < (5 : Int); exact (fm _ (by decide)).2)); (case h2 => (show (5 : Nat) < 100; decide)); (case hs => with_unfolding_all rfl); intro v')))
local macro_rules | `(tactic| walk_at "call ref") => `(tactic| (k_here; (with_reducible show wpAny _ _ (call (Value.ref 206) _) _ _ _); k_dflt (refine' mixed_ok ?hl ?hi ?h0 ?hk ?hlen ?hlay ?X ?T ?C ?_; (case hl => is_list); (case hi => assumption); (case h0 => omega); (case hk => omega); (case hlen => omega); (case hlay => assumption); (case X => k_in); (case T => exact Top.keeps (by assumption) (Fr.keep (by assumption))); (case C => exact Nice.less (by assumption) (by decide)); intro n' h' tk' t' k'; (have F' := Fr.stay (by assumption) k'); (have N' := News.stay (by assumption) k'); clear k'); (try dsimp only); (try k_sweep)))
local macro_rules | `(tactic| walk_at "call ref") => `(tactic| (k_here; (with_reducible show wpAny _ _ (call (Value.ref 213) _) _ _ _); k_dflt (refine' raw_ok ?X ?T ?C ?_; (case X => k_in); (case T => exact Top.keeps (by assumption) (Fr.keep (by assumption))); (case C => exact Nice.less (by assumption) (by decide)); intro r' y' h' tk' a' b' c' d' k' M' z' o'; (have f' := made_below (by assumption) z'); (have f9' := f'); (k_lt f9'); clear z'; (have F' := Fr.stay (by assumption) k'); (have N' := News.made (by assumption) (by assumption) k' M'); clear M' k'); (try dsimp only); (try dsimp only [List.cons_append, List.nil_append] at N'); (try k_sweep)))
local macro_rules | `(tactic| walk_at "call ref") => `(tactic| (k_here; (with_reducible show wpAny _ _ (call (Value.ref 220) _) _ _ _); k_dflt (refine' others2_ok ?X ?T ?C ?_; (case X => k_in); (case T => exact Top.keeps (by assumption) (Fr.keep (by assumption))); (case C => exact Nice.less (by assumption) (by decide)); intro l' r1' r2' r3' h' tk' a1' a2' a3' a4' b1' b2' b3' b4' c1' c2' c3' c4' k' M' z1' z2' z3' z4'; (have f1' := made_below (by assumption) z1'); (have f2' := made_below (by assumption) z2'); (have f3' := made_below (by assumption) z3'); (have f4' := made_below (by assumption) z4'); clear z1' z2' z3' z4'; (k_lt f1'); (k_lt f2'); (k_lt f3'); (k_lt f4'); (have F' := Fr.stay (by assumption) k'); (have N' := News.made (by assumption) (by assumption) k' M'); clear M' k'); (try dsimp only); (try dsimp only [List.cons_append, List.nil_append] at N'); (try k_sweep)))
local macro_rules | `(tactic| walk_at "eval ListComp") => `(tactic| (k_here; (try k_unmd); lcf_look; lcg_calm; k_dflt (refine LCg.ListComp_U (F₀ := by k_asm) (by with_unfolding_all rfl) (by decide) (by rfl) (by decide) (by rfl) ?_)))
local macro_rules | `(tactic| walk_at "CompSrc") => `(tactic| (k_here; k_dflt (first
  | (refine LCg.CompSrc.ledger (by rfl) (by k_asm) (by k_asm) (by k_mem) (by first | size_fits | exact Nat.le_of_ble_eq_true rfl) ?_; intro g'; lcg_lit)
  | (refine LCg.CompSrc.range (by rfl) (by k_asm) (by k_asm) (by assumption) (by first | decide | rfl) (by first | rfl | decide) (by first | size_fits | exact Nat.le_of_ble_eq_true rfl) ?_; intro g'; lcg_lit))))
theorem drop2 {h₀ h : Heap} {L : Addr} {a b : Addr × Obj} {l : List (Addr × Obj)} (N : News h₀ L h (a :: b :: l)) : News h₀ L h (a :: l) := fun p hp => N p (by
  rcases List.mem_cons.mp hp with rfl | hp
  · exact .head _
  · exact .tail _ (.tail _ hp))
local macro_rules | `(tactic| walk_at "binaryOp Add ref ref") => `(tactic| (k_here; (with_reducible show wpAny _ _ (binaryOp _ (Value.ref _) (Value.ref _)) _ _ _); k_dflt (refine' kmk_add_lit ?F ?N ?a ?b ?e ?_ ?z; (case F => k_asm); (case N => k_asm); (case a => kmk_list); (case b => kmk_list); (case e => kl_lit); (case z => kl_room)); intro D' h' F' N0' l1; (try k_lt l1); (have N' := drop2 N0'); clear N0'; (try k_sweep)))

local macro_rules | `(tactic| walk_at "call builtin:all") => `(tactic| (k_here; (with_reducible show wpAny _ _ (call (Value.builtin "all") [Value.ref _]) _ _ _); k_dflt (refine' all_true ?F ?N ?hh ?hl ?hv ?_; (case F => k_asm); (case N => k_asm); (case hh => rfl); (case hl => assumption); (case hv => assumption); intro h' tk' F' N'); (try dsimp only); (try k_sweep)))
local macro_rules | `(tactic| walk_at "call ref") => `(tactic| (k_here; (with_reducible show wpAny _ _ (call (Value.ref 290) _) _ _ _); k_dflt (refine' two_law (below_caller _) ?F ?hf ?hk ?X ?T ?C ?I ?J ?ox ?oy ?p1 ?p2 ?_; (case F => k_asm); (case hf => rfl); (case hk => rfl); (case X => assumption); (case T => assumption); (case C => exact Nice.less (by assumption) (by decide)); (case I => ktr_rel); (case J => ktr_rel); (case ox => assumption); (case oy => assumption); (case p1 => exact (prec_ok _).1); (case p2 => exact (prec_ok _).2); intro h' tk' k' n'; (first | exact two_done (by assumption) k' n' | skip))))
theorem sp_inf : spM inf := ⟨rfl, by decide⟩
theorem sp_ninf : spM ninf := ⟨rfl, by decide⟩
theorem sp_nan : spM nan := ⟨rfl, by decide⟩
local macro_rules | `(tactic| walk_at "call ref") => `(tactic| (k_here; (with_reducible show wpAny _ _ (call (Value.ref 297) _) _ _ _); k_dflt (refine' one_ok ?X ?T ?C ?I ?ox ?sx ?h1 ?h2 ?_; (case X => k_in); (case T => exact Top.keeps (by assumption) (Fr.keep (by assumption))); (case C => exact Nice.less (by assumption) (by decide)); (case I => ktr_rel); (case ox => first | exact ok_inf | exact ok_ninf | exact ok_nan); (case sx => first | exact sp_inf | exact sp_ninf | exact sp_nan); (case h1 => exact (num_ok _).1); (case h2 => exact (num_ok _).2); intro h' tk' k'; (have F' := Fr.stay (by assumption) k'); (have N' := News.stay (by assumption) k'); clear k'); (try dsimp only); (try k_sweep)))
local macro_rules | `(tactic| walk_at "call ref") => `(tactic| (k_here; (with_reducible show wpAny _ _ (call (Value.ref 276) [_, _, _, _, Value.int _ _]) _ _ _); k_dflt (refine' overi0_law (below_caller _) ?F ?N ?hf ?hk ?X ?T ?C ?J ?h1 ?h2 ?_; (case F => k_asm); (case N => k_asm); (case hf => rfl); (case hk => rfl); (case X => assumption); (case T => assumption); (case C => exact Nice.less (by assumption) (by decide)); (case J => ktr_rel); (case h1 => exact (num_ok _).1); (case h2 => exact (num_ok _).2); intro h' tk' F' N'); (try dsimp only); (try k_sweep)))
local macro_rules | `(tactic| walk_at "call ref") => `(tactic| (k_here; (with_reducible show wpAny _ _ (call (Value.ref 283) _) _ _ _); k_dflt (first
  | (refine' root0_law (below_caller _) ?F ?N ?hf ?hk ?X ?T ?C ?J ?_; (case F => k_asm); (case N => k_asm); (case hf => rfl); (case hk => rfl); (case X => assumption); (case T => assumption); (case C => exact Nice.less (by assumption) (by decide)); (case J => ktr_rel); intro h' tk' F' N')
  | (refine' root_ok ?X ?T ?C ?I ?h1 ?h2 ?_; (case X => k_in); (case T => exact Top.keeps (by assumption) (Fr.keep (by assumption))); (case C => exact Nice.less (by assumption) (by decide)); (case I => ktr_rel); (case h1 => rfl); (case h2 => rfl); intro h' tk' k'; (have F' := Fr.stay (by assumption) k'); (have N' := News.stay (by assumption) k'); clear k')); (try dsimp only); (try k_sweep)))
local macro_rules | `(tactic| walk_at "eval ListComp") => `(tactic| (k_here; (try k_unmd); (with_reducible show wpAny _ _ (eval (Expr.ListComp _ [_, _] _ _) _) _ _ _); k_dflt (focus (refine' comp2 ?hh ?hL ?hl ?hlL ?hys ?hi1 ?hi2 ?_ ?_ ?hclos ?hcell ?hkind ?hnames ?hx1 ?hx2 ?hx ?hs ?hf2; (case hclos => with_unfolding_all rfl); (case hcell => decide); (case hkind => rfl); (case hnames => decide); (case hx1 => rfl); (case hx2 => rfl); (case hx => decide); (case hs => intro _; rfl); (case hf2 => intro _ _; rfl); (case hh => rfl); (case hL => exact Fr.ns (by k_asm)); (case hi1 => (intro Q' E' q'; (first | walk1 | (dsimp only; walk1)); exact q')); (case hl => exact News.isList (by k_asm) (by k_mem)); (case hlL => exact news_ne (by k_asm) (by k_mem)); (case hys => exact Nat.le_of_ble_eq_true rfl); (case hi2 => (intro Cc' h' tk' Q' E' k' n' q'; (have F' := fr_of (by assumption) k' n'); (have N' := news_of (by assumption) k'); (first | walk1 | (dsimp only; walk1)); exact q')); intro Cc' v1' v2' h' tk' mc' Q' E' m1' m2' k' n' c0' cL' cn' y1' y2' q'; (have F' := fr_of (by assumption) k' n'); (have N0' := news_of (by assumption) k'); (obtain ⟨oC', eC', hC'⟩ := LCg.ns_obj cn'); (have N' := news_cons (by assumption) N0' eC' c0' cL'); clear N0'; (obtain ⟨ra', xa', ea', Ia', oa'⟩ := rows_mem m1' (by repeat' (first | exact rows_nil | refine rows_cons (by ktr_rel) (by first | exact ok_inf | exact ok_ninf | exact ok_nan | exact ok_zero | assumption) ?_)) (by k_asm) k'); (obtain ⟨rb', xb', eb', Ib', ob'⟩ := rows_mem m2' (by repeat' (first | exact rows_nil | refine rows_cons (by ktr_rel) (by first | exact ok_inf | exact ok_ninf | exact ok_nan | exact ok_zero | assumption) ?_)) (by k_asm) k'); subst ea' eb'; clear m1' m2'; rotate_left; intro D' h' tk' ys' k' n' l' sz' v'; (have F' := fr_of (by assumption) k' n'); (have N' := news_of (by assumption) k'); clear k' n'; rotate_left))))
theorem itemLit {prog : Program} {w : World} {A : Around} {E : Value → Shared → Prop} {s : Shared} {value slice : PySem.Expr} {l : Addr} {its : Array Value} {k : Int} {u : Tok} {v : Value} {Q : Value → Shared → Prop}
    (hl : s.heap.IsList l its) (h0 : 0 ≤ k) (hk : k < 2 ^ 63) (hx : its[k.toNat]? = some v) (h : Q v s)
    (hs : subscripted slice false (.ref l) (.int k u) = operate [.ref l, .int k u] (getItem (.ref l) (.int k u)) := by with_unfolding_all rfl) :
    wpAny (model prog w) A (subscriptTail value slice (.ref l) (.int k u)) Q E s :=
  tail_any hl.typeIs slot_list_getitem.lookup (wpAny_getItem_list hl h0 hk hx h) hs
local macro_rules | `(tactic| walk_at "subscriptTail Name Constant ref int") => `(tactic| (k_here; k_dflt (refine' itemLit ?l ?h0 ?hk ?hx ?_ ?hs; (case l => exact News.isList (by k_asm) (by k_mem)); (case h0 => decide); (case hk => decide); (case hx => exact rfl); (case hs => with_unfolding_all rfl))))
local macro_rules | `(tactic| walk_at "eval Name") => `(tactic| (k_here; (with_reducible show wpAny _ _ (eval (Expr.Name _ _) (compEnvC _ _ _ _)) _ _ _); k_dflt (first | refine LCgL.ld_own (by k_asm) (by k_mem) (by assumption) (by assumption) ?_ | refine LCgL.ld_global (by k_asm) (by k_asm) (by k_asm) (by k_is) ?_)))
theorem fr_cast {h₀ h : Heap} {L : Addr} {m m' : Str → Option Value} (F : Fr h₀ L h m) (e : m = m') : Fr h₀ L h m' := e ▸ F

theorem law_holds : PySem.Challenge.rw_ah5011_01.Holds := by
  refine hd ?_
  w_on
  k_go0
  (all_goals try k_fold)
  refine withNice ?_; intro C'
  rename_i z1 z2 z3 z4 z5 z6 z7 z8 z9 z10 z11 z12 z13 z14 z15 z16 z17 z18 z19 z20 z21 z22 z23 z24 z25 z26 z27 z28 z29 z30 z31 z32 z33 z34 z35 z36 z37 z38 z39 z40 z41 z42 z43 z44 z45 z46 z47 z48 z49 z50 z51 z52 z53 z54 z55 z56 z57 z58 z59 z60 z61 z62 z63
  clear z6 z7 z12 z15 z16 z17 z19 z20 z21 z24 z27 z29 z30 z32 z33 z40 z41 z42 z44 z46 z48 z63
  have z64 := fr_cast z51 (m' := fun _ => none) (funext fun _ => rfl)
  clear z51
  have z65 : z52.data = Data.cell none := z57
  have z66 : z53.data = Data.cell none := z58
  have z67 : z54.data = Data.cell none := z59
  have z68 : z55.data = Data.cell none := z60
  have z69 : z56.data = Data.cell (some (Value.ref z36)) := z61
  clear z57 z58 z59 z60 z61
  (k_with "call type:range" => k_rangeSizes)
  kwd_less
  all_goals k_steps
  all_goals w_report
end
end Mine

theorem PySem.Challenge.cw_ah5011_01_holds : PySem.Challenge.rw_ah5011_01.Holds :=
  Mine.law_holds
