import PyProof.Rows.All
import Wide.All
import OpenK.AllK
import Wide.FinOn
import PySem.Challenge.RW_pg0127_01
set_option Elab.async false
set_option maxRecDepth 100000
set_option maxHeartbeats 8000000
set_option linter.unusedSimpArgs false
set_option linter.unusedVariables false
set_option compiler.extract_closed false
open PySem PySem.W PyProof.Rows
namespace Mine
open_top hd for PySem.Challenge.rw_pg0127_01
end Mine
open PySem PySem.W PyProof.Rows PySem.Spec PySem.Calls
namespace Mine
section

/-- a goal that the walk leaves alone -/
noncomputable def Hold (P : Prop) : Prop := P
theorem Hold.out {P : Prop} (h : Hold P) : P := h

/-- every object stays as it is -/
noncomputable abbrev Keeps (h h' : Heap) : Prop := ∀ b o, h.get? b = some o → h'.get? b = some o

theorem fr_keeps {h₀ h h' : Heap} {L : Addr} {m : Str → Option Value} (F : Fr h₀ L h m) (k : Keeps h h') : Fr h₀ L h' m :=
  ⟨F.ns.keeps k, fun b o e => k b o (F.keep b o e), F.above⟩
theorem news_keeps {h₀ h h' : Heap} {L : Addr} {news : List (Addr × Obj)} (N : News h₀ L h news) (k : Keeps h h') : News h₀ L h' news :=
  fun p hp => ⟨k _ _ (N p hp).1, (N p hp).2⟩

/-- the names that the top leaves loose -/
noncomputable abbrev loose0 : List Str := looseW Mine.hd.view_39 [] ++ List.map (fun x => x.name) (recsOf Mine.hd.view_39) ++ List.map (fun x => x.fst) (litsOf Mine.hd.view_39) ++ List.map (fun x => x.name) (clssOf Mine.hd.view_39 (looseW Mine.hd.view_39 []))
noncomputable abbrev theProg : Program := Challenge.rw_pg0127_01.row.prog

section
variable {prog : Program} {w : World} {A₀ A : Around} {s : Shared} {base h₀ : Heap} {outer : List Env} {L : Addr} {m mg mb : Str → Option Value} {env : Env} {led : List (Addr × Obj)} {K : Frag} {p : Program} {loose : List Str} {mean : ExcName → Option Value}
  {R : Result → Shared → Prop} {name qual : Str} {params : Arguments} {body : List Stmt} {scope : Scope} {dV kV doc pm cdv ct oc : Value} {an od : Option Addr} {osl : Array (Option Value)} {f : Addr} {args : Args} {binds : List (Str × Value)}

/-- a def of the text entered: all that stands is its ground, but what it may turn (led) -/
theorem enterM (B : Below A₀ base outer h₀) (F : Fr h₀ L s.heap m) (X₀ : K.In h₀) (N : News h₀ L s.heap led) (T : Top p loose mean mg mb h₀) (hA : A.frames = some (env :: outer)) (hf : env.frame = some L) (hke : env.scope.kind = .function)
    (ho : K.lookup f = some ⟨oc, od, .func (fnOf name qual params body scope dV kV doc pm an cdv ct), osl⟩) (hcd : codeIn K cdv qual = true) (hroom : A.depth < recursionLimit)
    (hbind : BindsTo s (fnOf name qual params body scope dV kV doc pm an cdv ct) args binds) (hloc : ∀ y ∈ binds, scope.names.lookup y.1 = some .local)
    (h : ∀ g L' h₁, g = hideAll s.heap (led.map (·.1)) → Fr g L' h₁ (fun y => binds.reverse.lookup y) → News g L' h₁ led → Below A base (env :: outer) g → K.In g → Top p loose mean mg mb g → (∀ p ∈ led, p.1 < L') →
      wpAny (model prog w) (A.deeper (envOf qual scope L' f cdv)) (execs body (envOf qual scope L' f cdv))
        (fun fl s' => R (.ok (.ret (match fl with | .ret v => v | _ => .none))) s')
        (fun e s' => wpAny (model prog w) (A.deeper (envOf qual scope L' f cdv)) (leaving (envOf qual scope L' f cdv) e) (fun _ s'' => R (.error e) s'') (fun e' s'' => R (.error e') s'') s')
        { s with heap := h₁, toks := s.toks + binds.length })
    (hco : scope.isCoroutine = false) (hgen : scope.isGenerator = false) (hk : scope.kind = .function)
    (hcell : ∀ x ∈ scope.names, x.2 ≠ .cell) : codeAny (model prog w) A (.call (.ref f) args) R s := by
  obtain ⟨FG, BG, st, _⟩ := groundX (R := R) B F N hA hf hke
  refine codeAny_call_def (fd := fnOf name qual params body scope dV kV doc pm an cdv ct) (body := body) (binds := binds) hroom ((X₀.keeps F.keep) _ _ ho) rfl (T.nolimit.keeps F.keep) (codeRec_of (X₀.keeps F.keep) hcd) rfl hbind hcell hloc (fun h₁ hns hk₁ => ?_) hco hgen hk
  exact h _ s.heap.objs.size h₁ rfl ⟨hns, fun b o e => hk₁ b o (of_hideAll _ e), Nat.le_of_eq (hideAll_size _ _)⟩
    (fun p hp => ⟨hk₁ _ _ (N p hp).1, Nat.ne_of_lt (Heap.lt_size (N p hp).1), hideAll_none _ (List.mem_map_of_mem hp)⟩) BG (X₀.keeps st) (T.keeps st) (fun p hp => Heap.lt_size (N p hp).1)

/-- a def that turns nothing that stands -/
theorem enterP (B : Below A₀ base outer h₀) (F : Fr h₀ L s.heap m) (X₀ : K.In h₀) (T : Top p loose mean mg mb h₀) (hA : A.frames = some (env :: outer)) (hf : env.frame = some L) (hke : env.scope.kind = .function)
    (ho : K.lookup f = some ⟨oc, od, .func (fnOf name qual params body scope dV kV doc pm an cdv ct), osl⟩) (hcd : codeIn K cdv qual = true) (hroom : A.depth < recursionLimit)
    (hbind : BindsTo s (fnOf name qual params body scope dV kV doc pm an cdv ct) args binds) (hloc : ∀ y ∈ binds, scope.names.lookup y.1 = some .local)
    (h : ∀ L' h₁, Fr s.heap L' h₁ (fun y => binds.reverse.lookup y) → News s.heap L' h₁ [] → Below A base (env :: outer) s.heap → K.In s.heap → Top p loose mean mg mb s.heap →
      wpAny (model prog w) (A.deeper (envOf qual scope L' f cdv)) (execs body (envOf qual scope L' f cdv))
        (fun fl s' => R (.ok (.ret (match fl with | .ret v => v | _ => .none))) s')
        (fun e s' => wpAny (model prog w) (A.deeper (envOf qual scope L' f cdv)) (leaving (envOf qual scope L' f cdv) e) (fun _ s'' => R (.error e) s'') (fun e' s'' => R (.error e') s'') s')
        { s with heap := h₁, toks := s.toks + binds.length })
    (hco : scope.isCoroutine = false) (hgen : scope.isGenerator = false) (hk : scope.kind = .function)
    (hcell : ∀ x ∈ scope.names, x.2 ≠ .cell) : codeAny (model prog w) A (.call (.ref f) args) R s :=
  enterM B F X₀ News.nil T hA hf hke ho hcd hroom hbind hloc (fun g L' h₁ hg F' N' B' X' T' _ => by
    have hg' : g = s.heap := hg
    subst hg'
    exact h L' h₁ F' N' B' X' T') hco hgen hk hcell
end

/-- what a call of the def at f tells: nothing that stands is turned -/
noncomputable def Tell (w : World) (mean : ExcName → Option Value) (mg mb : Str → Option Value) (f : Addr) (D : Nat) (vs : List Value) (Pre : Heap → Prop) (Post : Heap → Value → Heap → Prop) : Prop :=
  ∀ (dp un : Nat) (gd : Option (List Code)) (cn : Str) (cs : Scope) (a : Addr) (ccd : Value) (cl : List (Str × Addr)) (outer : List Env) (A₀ : Around) (base h₀ : Heap) (L : Addr) (m : Str → Option Value) (s : Shared) (Q E : Value → Shared → Prop),
    Below A₀ base outer h₀ → Fr h₀ L s.heap m → (Mine.hd.heap_39 w.params).In h₀ → Top topProg loose0 mean mg mb h₀ → cs.kind = .function → Pre s.heap → dp + D < recursionLimit → un + 8 * D < cLine →
    (∀ r h' tk', Keeps s.heap h' → Post s.heap r h' → Q r { s with heap := h', toks := tk' }) →
    wpAny (model Challenge.rw_pg0127_01.row.prog w) (ktrTop dp un gd cn cs L a ccd cl outer) (call (.ref f) vs) Q E s

section
variable {w : World} {mean : ExcName → Option Value} {mg mb : Str → Option Value} {f : Addr} {D : Nat} {vs : List Value} {Pre : Heap → Prop} {Post : Heap → Value → Heap → Prop}
  {dp un : Nat} {gd : Option (List Code)} {cn : Str} {cs : Scope} {a : Addr} {ccd : Value} {cl : List (Str × Addr)} {outer : List Env} {A₀ : Around} {base h₀ : Heap} {L : Addr} {m : Str → Option Value} {s : Shared} {news : List (Addr × Obj)} {Q E : Value → Shared → Prop}
theorem tell_use (C : Tell w mean mg mb f D vs Pre Post) (B : Below A₀ base outer h₀) (F : Fr h₀ L s.heap m) (X : (Mine.hd.heap_39 w.params).In h₀) (N : News h₀ L s.heap news) (T : Top topProg loose0 mean mg mb h₀) (hk : cs.kind = .function) (hp : Pre s.heap)
    (hd : dp + D < recursionLimit) (hu : un + 8 * D < cLine)
    (ret : ∀ r h' tk', Fr h₀ L h' m → News h₀ L h' news → Keeps s.heap h' → Post s.heap r h' → Q r { s with heap := h', toks := tk' }) :
    wpAny (model Challenge.rw_pg0127_01.row.prog w) (ktrTop dp un gd cn cs L a ccd cl outer) (call (.ref f) vs) Q E s :=
  by
  unfold Tell at C
  exact C _ _ _ _ _ _ _ _ _ _ _ _ _ _ _ _ _ B F X T hk hp hd hu fun r h' tk' k p => ret r h' tk' (fr_keeps F k) (news_keeps N k) k p
end


theorem lt_all {a b : Nat} {o : Obj} {news : List (Addr × Obj)} (h : ∀ p ∈ news, p.1 < a) (hm : (b, o) ∈ news) : b < a := h (b, o) hm
/-- what a call has made -/
noncomputable def Made (h h' : Heap) (n : List (Addr × Obj)) : Prop := ∀ p ∈ n, h'.get? p.1 = some p.2 ∧ h.get? p.1 = none
theorem made_news {h₀ h h' : Heap} {L : Addr} {m : Str → Option Value} {n news : List (Addr × Obj)} (F : Fr h₀ L h m) (N : News h₀ L h' news) (M : Made h h' n) : News h₀ L h' (n ++ news) := fun p hp => by
  rcases List.mem_append.mp hp with hp | hp
  · obtain ⟨e1, e2⟩ := M p hp
    refine ⟨e1, fun q => ?_, ?_⟩
    · obtain ⟨oL, es, ep, hL, _⟩ := F.ns
      rw [q, hL] at e2; cases e2
    · cases q : h₀.get? p.1 with
      | none => rfl
      | some o => rw [F.keep _ _ q] at e2; cases e2
  · exact N p hp
theorem made_off {h₀ h h' : Heap} {L b : Addr} {o : Obj} {n news : List (Addr × Obj)} (N : News h₀ L h news) (hm : (b, o) ∈ news) (M : Made h h' n) : ∀ p ∈ n, p.1 ≠ b := fun p hp e => by
  have e2 := (M p hp).2
  rw [e, (N _ hm).1] at e2; cases e2
theorem news_made {h₀ h : Heap} {L : Addr} {news : List (Addr × Obj)} (N : News h₀ L h news) : Made h₀ h news := fun p hp => ⟨(N p hp).1, (N p hp).2.2⟩
/-- none of the ledger's lies at a -/
noncomputable def NeAll (news : List (Addr × Obj)) (a : Addr) : Prop := ∀ p ∈ news, p.1 ≠ a
theorem made_ne {h₀ h : Heap} {L l : Addr} {news : List (Addr × Obj)} (N : News h₀ L h news) (e1 : h.get? l = none) : NeAll news l := fun p hp e => by
  rw [← e, (N p hp).1] at e1; cases e1
theorem ne_all {a b : Addr} {o : Obj} {news : List (Addr × Obj)} (h : NeAll news a) (hm : (b, o) ∈ news) : b ≠ a := h (b, o) hm
theorem ne_sub {a : Addr} {tc news : List (Addr × Obj)} (h : NeAll news a) (sub : ∀ p ∈ tc, p ∈ news) : ∀ p ∈ tc, p.1 ≠ a := fun p hp => h p (sub p hp)
theorem lt_sub {a : Nat} {tc news : List (Addr × Obj)} (h : ∀ p ∈ news, p.1 < a) (sub : ∀ p ∈ tc, p ∈ news) : ∀ p ∈ tc, p.1 ≠ a := fun p hp => Nat.ne_of_lt (h p (sub p hp))
/-- all of the ledger's lie below a -/
noncomputable def LtAll (news : List (Addr × Obj)) (a : Nat) : Prop := ∀ p ∈ news, p.1 < a
theorem LtAll.of {a : Nat} {news : List (Addr × Obj)} (h : ∀ p ∈ news, p.1 < a) : LtAll news a := h
theorem ltAll_lt {a : Nat} {b : Addr} {o : Obj} {news : List (Addr × Obj)} (h : LtAll news a) (hm : (b, o) ∈ news) : b < a := h (b, o) hm
theorem ltAll_sub {a : Nat} {tc news : List (Addr × Obj)} (h : LtAll news a) (sub : ∀ p ∈ tc, p ∈ news) : ∀ p ∈ tc, p.1 ≠ a := fun p hp => Nat.ne_of_lt (h p (sub p hp))
theorem ltAll_ne {a : Nat} {b : Addr} {o : Obj} {news : List (Addr × Obj)} (h : LtAll news a) (hm : (b, o) ∈ news) : b ≠ a := Nat.ne_of_lt (h (b, o) hm)
theorem room0 {d D n : Nat} (h : d + D < n) : d < n := Nat.lt_of_le_of_lt (Nat.le_add_right _ _) h
theorem room2 {d D a n : Nat} (h : d + D < n) (e : Nat.ble (1 + a) D = true) : d + 1 + a < n := by
  rw [Nat.add_assoc]
  exact Nat.lt_of_le_of_lt (Nat.add_le_add_left (Nat.le_of_ble_eq_true e) d) h
theorem room3 {d D n : Nat} (h : d + D < n) (e : Nat.ble 1 D = true) : d + 1 < n := room2 (a := 0) h e
theorem unit2 {d D a n : Nat} (h : d + 8 * D < n) (e : Nat.ble (3 + a) (8 * D) = true) : d + 3 + a < n := by
  rw [Nat.add_assoc]
  exact Nat.lt_of_le_of_lt (Nat.add_le_add_left (Nat.le_of_ble_eq_true e) d) h
end
local macro_rules | `(tactic| walk_at $s:str) => `(tactic| k_extra $s)
local macro_rules | `(tactic| walk_at "my of") => `(tactic| (rename (∀ p ∈ _, Prod.fst p < _) => l1; replace l1 := LtAll.of l1))
section
section
variable {prog : Program} {w : World} {A : Around} {E : Value → Shared → Prop} {s : Shared} {env : Env} {h₀ : Heap} {x : Str} {body : List Stmt} {Q : Flow → Shared → Prop}
theorem unrPost_mono {L : Addr} {s₁ : Shared} {I : Addr} {it : Obj} {r r' : (Str → Option Value) → List (Addr × Obj) → Prop} {f : Flow} {s₂ : Shared} (hr : ∀ m n, r m n → r' m n)
    (h : UnrPost h₀ L s₁ I it r Q f s₂) : UnrPost h₀ L s₁ I it r' Q f s₂ := by
  have key : UnrEnd h₀ L s₁ I it r s₂ → UnrEnd h₀ L s₁ I it r' s₂ := fun ⟨h', tk, m', n', a, b, c, d, e⟩ => ⟨h', tk, m', n', a, b, c, d, hr _ _ e⟩
  cases f with
  | ret v => exact h
  | brk => exact h
  | next => exact key h
  | cont => exact key h
theorem rangeRest_inv {I : Addr} {a : Int} {n : Nat} (Inv : Nat → (Str → Option Value) → List (Addr × Obj) → Prop)
    (turn : ∀ i, i < n → ∀ m news, Inv i m news → ∀ t h tk, Fr h₀ env.locals h (fun y => if y = x then some (.int (a + (i : Int)) t) else m y) →
      News h₀ env.locals h ((I, itR (a + ((i + 1 : Nat) : Int)) ((n : Int) - ((i + 1 : Nat) : Int))) :: news) →
      wpAny (model prog w) A (execs body env) (UnrPost h₀ env.locals { s with heap := h, toks := tk } I (itR (a + ((i + 1 : Nat) : Int)) ((n : Int) - ((i + 1 : Nat) : Int))) (Inv (i + 1)) Q) E { s with heap := h, toks := tk })
    (done : ∀ m news, Inv n m news → ∀ h tk, Fr h₀ env.locals h m → News h₀ env.locals h news → Q .next { s with heap := h, toks := tk }) :
    ∀ k i, k + i = n → ∀ m news, Inv i m news → RangeRest prog w A E h₀ env x body Q s I a n k i m news := by
  intro k
  induction k with
  | zero =>
    intro i hi m news hInv
    have : i = n := by lia
    subst this
    exact done m news hInv
  | succ k ih =>
    intro i hi m news hInv t h tk F N
    exact wpAny_mono (turn i (by lia) m news hInv t h tk F N) (fun f s₂ p => unrPost_mono (fun m' n' q => ih (i + 1) (by lia) m' n' q) p) fun _ _ e => e
/-- a loop over a range by ones, by what holds between the turns -/
theorem range_inv {r : Addr} {a₀ b₀ : Int} {t₀ u₀ v₀ : Tok} {n : Nat} {m₀ : Str → Option Value} {news : List (Addr × Obj)} (Inv : Nat → (Str → Option Value) → List (Addr × Obj) → Prop)
    (hh : A.handled = none) (hr : IsRange s.heap r a₀ b₀ 1 t₀ u₀ v₀) (hsmall : Builtin.Range.small a₀ b₀ 1 = true) (hn : Builtin.Range.rangeSize a₀ b₀ 1 = (n : Int)) (F : Fr h₀ env.locals s.heap m₀) (N : News h₀ env.locals s.heap news)
    (h0 : Inv 0 m₀ news)
    (turn : ∀ I : Addr, (∀ p ∈ news, p.1 < I) → ∀ i, i < n → ∀ m news, Inv i m news → ∀ t h tk, Fr h₀ env.locals h (fun y => if y = x then some (.int (a₀ + (i : Int)) t) else m y) →
      News h₀ env.locals h ((I, itR (a₀ + ((i + 1 : Nat) : Int)) ((n : Int) - ((i + 1 : Nat) : Int))) :: news) →
      wpAny (model prog w) A (execs body env) (UnrPost h₀ env.locals { s with heap := h, toks := tk } I (itR (a₀ + ((i + 1 : Nat) : Int)) ((n : Int) - ((i + 1 : Nat) : Int))) (Inv (i + 1)) Q) E { s with heap := h, toks := tk })
    (done : ∀ m news, Inv n m news → ∀ h tk, Fr h₀ env.locals h m → News h₀ env.locals h news → Q .next { s with heap := h, toks := tk }) :
    wpAny (model prog w) A (pyIter (.ref r)) (fun it s₂ => LoopAtV prog w A h₀ env x body Q E it s₂) E s :=
  iter_rangeUnr hh hr hsmall hn F N fun I hI => rangeRest_inv Inv (turn I hI) done n 0 (by lia) m₀ news h0

/-- the names that a loop's turn may turn -/
noncomputable def ovr : List Str → (Str → Option Value) → (Str → Option Value) → Str → Option Value
  | [], _, m, z => m z
  | n :: r, u, m, z => if z = n then u z else ovr r u m z
theorem ovr_of : ∀ (names : List Str) (m m' : Str → Option Value), (∀ z, z ∉ names → m' z = m z) → m' = ovr names m' m := by
  intro names m m' h
  funext z
  induction names with
  | nil => exact h z (fun q => nomatch q)
  | cons n r ih =>
    unfold ovr
    by_cases e : z = n
    · rw [if_pos e]
    · rw [if_neg e]
      by_cases hz : z ∈ r
      · clear ih h e
        induction r with
        | nil => exact nomatch hz
        | cons a r ih2 =>
          unfold ovr
          by_cases e : z = a
          · rw [if_pos e]
          · rw [if_neg e]; exact ih2 ((List.mem_cons.mp hz).resolve_left e)
      · have : ∀ (r : List Str), z ∉ r → ovr r m' m z = m z := by
          intro r
          induction r with
          | nil => intro _; rfl
          | cons a r ih3 => intro hz; unfold ovr; rw [if_neg (fun e => hz (by rw [e]; exact .head _))]; exact ih3 (fun q => hz (.tail _ q))
        rw [this r hz]
        exact h z (fun q => (List.mem_cons.mp q).elim e hz)
/-- what holds behind a turn -/
noncomputable def Turned {D : Type} (names : List Str) (m₀ : Str → Option Value) (led : D → List (Addr × Obj)) (P : D → Prop) (m' : Str → Option Value) (news' : List (Addr × Obj)) : Prop :=
  (∀ z, z ∉ names → m' z = m₀ z) ∧ ∃ d, news' = led d ∧ P d
theorem range_data {D : Type} {r : Addr} {a₀ b₀ : Int} {t₀ u₀ v₀ : Tok} {n : Nat} {m₀ : Str → Option Value} (names : List Str) (led : D → List (Addr × Obj)) (P : Nat → D → Prop) (d₀ : D)
    (hh : A.handled = none) (hr : IsRange s.heap r a₀ b₀ 1 t₀ u₀ v₀) (hsmall : Builtin.Range.small a₀ b₀ 1 = true) (hn : Builtin.Range.rangeSize a₀ b₀ 1 = (n : Int)) (F : Fr h₀ env.locals s.heap m₀) (N : News h₀ env.locals s.heap (led d₀))
    (h0 : P 0 d₀)
    (turn : ∀ I : Addr, (∀ p ∈ led d₀, p.1 < I) → ∀ i, i < n → ∀ u d, P i d → ∀ t h tk, Fr h₀ env.locals h (fun y => if y = x then some (.int (a₀ + (i : Int)) t) else ovr names u m₀ y) →
      News h₀ env.locals h ((I, itR (a₀ + ((i + 1 : Nat) : Int)) ((n : Int) - ((i + 1 : Nat) : Int))) :: led d) →
      wpAny (model prog w) A (execs body env) (UnrPost h₀ env.locals { s with heap := h, toks := tk } I (itR (a₀ + ((i + 1 : Nat) : Int)) ((n : Int) - ((i + 1 : Nat) : Int))) (Turned names m₀ led (P (i + 1))) Q) E { s with heap := h, toks := tk })
    (done : ∀ u d, P n d → ∀ h tk, Fr h₀ env.locals h (ovr names u m₀) → News h₀ env.locals h (led d) → Q .next { s with heap := h, toks := tk }) :
    wpAny (model prog w) A (pyIter (.ref r)) (fun it s₂ => LoopAtV prog w A h₀ env x body Q E it s₂) E s := by
  refine range_inv (fun i => Turned names m₀ led (P i)) hh hr hsmall hn F N ⟨fun _ _ => rfl, d₀, rfl, h0⟩ ?_ ?_
  · rintro I hI i hi m news ⟨hm, d, rfl, hP⟩ t h tk F₁ N₁
    rw [ovr_of names m₀ m hm] at F₁
    exact turn I hI i hi m d hP t h tk F₁ N₁
  · rintro m news ⟨hm, d, rfl, hP⟩ h tk F₁ N₁
    rw [ovr_of names m₀ m hm] at F₁
    exact done m d hP h tk F₁ N₁
/-- the same, one object of the ledger's head turned -/
theorem range_head {D : Type} {r : Addr} {a₀ b₀ : Int} {t₀ u₀ v₀ : Tok} {n : Nat} {m₀ : Str → Option Value} {ln : Addr} {rest : List (Addr × Obj)} (names : List Str) (obj : D → Obj) (P : Nat → D → Prop) (d₀ : D)
    (hh : A.handled = none) (hr : IsRange s.heap r a₀ b₀ 1 t₀ u₀ v₀) (hsmall : Builtin.Range.small a₀ b₀ 1 = true) (hn : Builtin.Range.rangeSize a₀ b₀ 1 = (n : Int)) (F : Fr h₀ env.locals s.heap m₀) (N : News h₀ env.locals s.heap ((ln, obj d₀) :: rest))
    (h0 : P 0 d₀)
    (turn : ∀ I : Addr, (∀ p ∈ (ln, obj d₀) :: rest, p.1 < I) → ∀ i, i < n → ∀ u d, P i d → ∀ t h tk, Fr h₀ env.locals h (fun y => if y = x then some (.int (a₀ + (i : Int)) t) else ovr names u m₀ y) →
      News h₀ env.locals h ((I, itR (a₀ + ((i + 1 : Nat) : Int)) ((n : Int) - ((i + 1 : Nat) : Int))) :: (ln, obj d) :: rest) →
      wpAny (model prog w) A (execs body env) (UnrPost h₀ env.locals { s with heap := h, toks := tk } I (itR (a₀ + ((i + 1 : Nat) : Int)) ((n : Int) - ((i + 1 : Nat) : Int))) (Turned names m₀ (fun d => (ln, obj d) :: rest) (P (i + 1))) Q) E { s with heap := h, toks := tk })
    (done : ∀ u d, P n d → ∀ h tk, Fr h₀ env.locals h (ovr names u m₀) → News h₀ env.locals h ((ln, obj d) :: rest) → Q .next { s with heap := h, toks := tk }) :
    wpAny (model prog w) A (pyIter (.ref r)) (fun it s₂ => LoopAtV prog w A h₀ env x body Q E it s₂) E s :=
  range_data names (fun d => (ln, obj d) :: rest) P d₀ hh hr hsmall hn F N h0 turn done
theorem turn_end {D : Type} {L I : Addr} {it : Obj} {names : List Str} {m₀ m' : Str → Option Value} {led : D → List (Addr × Obj)} {P : D → Prop} {s₁ : Shared} {h' : Heap} {tk : Nat} {all : List (Addr × Obj)} (d : D)
    (F : Fr h₀ L h' m') (N : News h₀ L h' all) (hI : (I, it) ∈ all) (sub : ∀ p ∈ led d, p ∈ all) (off : ∀ p ∈ led d, p.1 ≠ I) (hm : ∀ z, z ∉ names → m' z = m₀ z) (hP : P d) :
    UnrEnd h₀ L s₁ I it (Turned names m₀ led P) { s₁ with heap := h', toks := tk } :=
  UnrEnd.intro F N (led d) (fun p hp => by
    rcases List.mem_cons.mp hp with rfl | hp
    · exact hI
    · exact sub p hp) off ⟨hm, d, rfl, hP⟩
theorem off_head {ln I : Addr} {o o' : Obj} {rest : List (Addr × Obj)} (h : ∀ p ∈ (ln, o) :: rest, p.1 < I) : ∀ p ∈ (ln, o') :: rest, p.1 ≠ I := fun p hp => by
  rcases List.mem_cons.mp hp with rfl | hp
  · exact Nat.ne_of_lt (h (ln, o) (.head _))
  · exact Nat.ne_of_lt (h p (.tail _ hp))

/-- a loop over a list that stays (it lies in the ground), by what holds between the turns; the ledger may grow -/
theorem list_inv {l : Addr} {vs : List Value} {m₀ : Str → Option Value} {news₀ : List (Addr × Obj)} (Inv : Nat → (Str → Option Value) → List (Addr × Obj) → Prop)
    (hh : A.handled = none) (hl : h₀.IsList l vs.toArray) (F : Fr h₀ env.locals s.heap m₀) (N : News h₀ env.locals s.heap news₀) (h0 : Inv 0 m₀ news₀)
    (turn : ∀ I : Addr, (∀ p ∈ news₀, p.1 < I) → ∀ i v, vs[i]? = some v → ∀ m news, Inv i m news → (∀ p ∈ news, p.1 ≠ I) → ∀ it h tk, Fr h₀ env.locals h (fun y => if y = x then some v else m y) →
      News h₀ env.locals h ((I, it) :: news) →
      wpAny (model prog w) A (execs body env) (UnrPost h₀ env.locals { s with heap := h, toks := tk } I it (Inv (i + 1)) Q) E { s with heap := h, toks := tk })
    (done : ∀ m news, Inv vs.length m news → ∀ h tk, Fr h₀ env.locals h m → News h₀ env.locals h news → Q .next { s with heap := h, toks := tk }) :
    wpAny (model prog w) A (pyIter (.ref l)) (fun it s₂ => LoopAtV prog w A h₀ env x body Q E it s₂) E s := by
  have hls : s.heap.IsList l vs.toArray := hl.at fun o e => F.keep l o e
  obtain ⟨ol, hol, _⟩ := id hl
  have hlt : l < h₀.objs.size := Heap.lt_size hol
  have hne : l ≠ s.heap.objs.size := Nat.ne_of_lt (Nat.lt_trans (Nat.lt_of_lt_of_le hlt F.above) F.ns.lt)
  refine wpAny_pyIter_list hls ?_
  have W := Walks.list (prog := prog) (w := w) hh s.heap.objs.size l hne vs.toArray
  rw [List.size_toArray] at W
  have hnew := next_is_new F
  refine ⟨_, _, _, vs.length, _, _, m₀, news₀, Inv, rfl, W, ?_, ?_, ?_, ⟨⟨_, Heap.get?_push_size _ rfl, rfl, rfl⟩, hls.at fun o e => Heap.get?_push_of_some _ e⟩, F.push _, news_keeps N fun b o e => Heap.get?_push_of_some _ e, h0, ?_, ?_⟩
  · intro hm
    rcases List.mem_cons.mp hm with e | hm
    · exact absurd F.ns.lt (e ▸ Nat.lt_irrefl _)
    · exact absurd (Nat.lt_of_lt_of_le hlt F.above) ((List.mem_singleton.mp hm) ▸ Nat.lt_irrefl _)
  · intro b hb
    rw [List.mem_singleton.mp hb]; exact hnew
  · intro p hp hI
    exact absurd (Heap.lt_size (N p hp).1) ((List.mem_singleton.mp hI) ▸ Nat.lt_irrefl _)
  · rintro i v m₁ news₁ s₁ own ⟨hh', tk', rfl⟩ hin hP hJ hoff hown hget hall hst F₁ N₁
    obtain ⟨it, hit, _, _⟩ := hst.1
    have hmemI := hall s.heap.objs.size (List.mem_cons_self ..) hnew _ hit
    have hv : vs[i]? = some v := by simpa using hP
    have N₂ : News h₀ env.locals hh' ((s.heap.objs.size, it) :: news₁) := fun p hp => by
      rcases List.mem_cons.mp hp with rfl | hp
      · exact N₁ _ (List.mem_append_left _ hmemI)
      · exact N₁ _ (List.mem_append_right _ hp)
    refine wpAny_mono (turn s.heap.objs.size (fun p hp => Heap.lt_size (N p hp).1) i v hv m₁ news₁ hJ (fun p hp e => hoff p hp (e ▸ List.mem_singleton.mpr rfl)) it hh' tk' F₁ N₂) (fun f s₂ p => ?_) fun _ _ e => e
    have fin : UnrEnd h₀ env.locals { s with heap := hh', toks := tk' } s.heap.objs.size it (Inv (i + 1)) s₂ →
        LoopStepU h₀ env.locals [s.heap.objs.size] own (Inv (i + 1)) { s with heap := hh', toks := tk' } .next s₂ := by
      rintro ⟨h', tk, m', news', e, F', N', ho, r⟩
      refine ⟨rfl, h', tk, m', news', e, F', fun p hp => ?_, fun p hp hI => ho p hp (List.mem_singleton.mp hI), r⟩
      rcases List.mem_append.mp hp with hp | hp
      · have h2 : hh'.get? p.1 = some p.2 := hget p hp
        rcases List.mem_cons.mp (hown p hp) with h1 | h1
        · have h3 : p = (s.heap.objs.size, it) := by
            rw [h1, hit] at h2
            exact Prod.ext h1 (Option.some.inj h2).symm
          rw [h3]; exact N' _ (List.mem_cons_self ..)
        · exfalso
          have h1' : p.1 = l := List.mem_singleton.mp h1
          have h3 := (N₁ p (List.mem_append_left _ hp)).2.2
          rw [h1', hol] at h3; cases h3
      · exact N' _ (List.mem_cons_of_mem _ hp)
    cases f with
    | ret v => exact .ret p
    | brk => exact .brk p
    | next => exact .next (fin p)
    | cont => exact .cont (fin p)
  · rintro h' tk m' news' F' N' _ hJ
    exact done m' news' hJ h' tk F' N'
theorem list_data {D : Type} {l : Addr} {vs : List Value} {m₀ : Str → Option Value} (names : List Str) (led : D → List (Addr × Obj)) (P : Nat → D → Prop) (d₀ : D)
    (hh : A.handled = none) (hl : h₀.IsList l vs.toArray) (F : Fr h₀ env.locals s.heap m₀) (N : News h₀ env.locals s.heap (led d₀)) (h0 : P 0 d₀)
    (turn : ∀ I : Addr, (∀ p ∈ led d₀, p.1 < I) → ∀ i v, vs[i]? = some v → ∀ u d, P i d → (∀ p ∈ led d, p.1 ≠ I) → ∀ it h tk, Fr h₀ env.locals h (fun y => if y = x then some v else ovr names u m₀ y) →
      News h₀ env.locals h ((I, it) :: led d) →
      wpAny (model prog w) A (execs body env) (UnrPost h₀ env.locals { s with heap := h, toks := tk } I it (Turned names m₀ led (P (i + 1))) Q) E { s with heap := h, toks := tk })
    (done : ∀ u d, P vs.length d → ∀ h tk, Fr h₀ env.locals h (ovr names u m₀) → News h₀ env.locals h (led d) → Q .next { s with heap := h, toks := tk }) :
    wpAny (model prog w) A (pyIter (.ref l)) (fun it s₂ => LoopAtV prog w A h₀ env x body Q E it s₂) E s := by
  refine list_inv (fun i => Turned names m₀ led (P i)) hh hl F N ⟨fun _ _ => rfl, d₀, rfl, h0⟩ ?_ ?_
  · rintro I hI i v hv m news ⟨hm, d, rfl, hP⟩ hoff it h tk F₁ N₁
    rw [ovr_of names m₀ m hm] at F₁
    exact turn I hI i v hv m d hP hoff it h tk F₁ N₁
  · rintro m news ⟨hm, d, rfl, hP⟩ h tk F₁ N₁
    rw [ovr_of names m₀ m hm] at F₁
    exact done m d hP h tk F₁ N₁

theorem list_head {D : Type} {l ln : Addr} {vs : List Value} {m₀ : Str → Option Value} (names : List Str) (obj : D → Obj) (os : D → List (Addr × Obj)) (P : Addr → Nat → D → Prop) (d₀ : D)
    (hh : A.handled = none) (hl : h₀.IsList l vs.toArray) (F : Fr h₀ env.locals s.heap m₀) (N : News h₀ env.locals s.heap ((ln, obj d₀) :: os d₀)) (h0 : P ln 0 d₀)
    (turn : ∀ I : Addr, (∀ p ∈ (ln, obj d₀) :: os d₀, p.1 < I) → ∀ i v, vs[i]? = some v → ∀ u d, P ln i d → (∀ p ∈ (ln, obj d) :: os d, p.1 ≠ I) → ∀ it h tk, Fr h₀ env.locals h (fun y => if y = x then some v else ovr names u m₀ y) →
      News h₀ env.locals h ((I, it) :: (ln, obj d) :: os d) →
      wpAny (model prog w) A (execs body env) (UnrPost h₀ env.locals { s with heap := h, toks := tk } I it (Turned names m₀ (fun d => (ln, obj d) :: os d) (P ln (i + 1))) Q) E { s with heap := h, toks := tk })
    (done : ∀ u d, P ln vs.length d → ∀ h tk, Fr h₀ env.locals h (ovr names u m₀) → News h₀ env.locals h ((ln, obj d) :: os d) → Q .next { s with heap := h, toks := tk }) :
    wpAny (model prog w) A (pyIter (.ref l)) (fun it s₂ => LoopAtV prog w A h₀ env x body Q E it s₂) E s :=
  list_data names (fun d => (ln, obj d) :: os d) (P ln) d₀ hh hl F N h0 turn done
/-- names whose values are told -/
noncomputable def lay : List (Str × Value) → (Str → Option Value) → Str → Option Value
  | [], m, z => m z
  | (n, v) :: r, m, z => if z = n then some v else lay r m z
theorem lay_of : ∀ (kn : List (Str × Value)) (m m' : Str → Option Value), m' = m → (∀ p ∈ kn, m' p.1 = some p.2) → m' = lay kn m
  | [], _, _, h, _ => by rw [h]; rfl
  | (n, v) :: r, m, m', h, hk => by
    funext z
    unfold lay
    by_cases e : z = n
    · rw [if_pos e, e]; exact hk (n, v) (.head _)
    · rw [if_neg e, ← lay_of r m m' h fun p hp => hk p (.tail _ hp)]
/-- what holds behind a turn, some names told -/
noncomputable def TurnedK {D : Type} (names : List Str) (m₀ : Str → Option Value) (kn : D → List (Str × Value)) (led : D → List (Addr × Obj)) (P : D → Prop) (m' : Str → Option Value) (news' : List (Addr × Obj)) : Prop :=
  (∀ z, z ∉ names → m' z = m₀ z) ∧ ∃ d, (∀ p ∈ kn d, m' p.1 = some p.2) ∧ news' = led d ∧ P d
theorem turn_endK {D : Type} {L I : Addr} {it : Obj} {names : List Str} {m₀ m' : Str → Option Value} {kn : D → List (Str × Value)} {led : D → List (Addr × Obj)} {P : D → Prop} {s₁ : Shared} {h' : Heap} {tk : Nat} {all : List (Addr × Obj)} (d : D)
    (F : Fr h₀ L h' m') (N : News h₀ L h' all) (hI : (I, it) ∈ all) (sub : ∀ p ∈ led d, p ∈ all) (off : ∀ p ∈ led d, p.1 ≠ I) (hm : ∀ z, z ∉ names → m' z = m₀ z) (hk : ∀ p ∈ kn d, m' p.1 = some p.2) (hP : P d) :
    UnrEnd h₀ L s₁ I it (TurnedK names m₀ kn led P) { s₁ with heap := h', toks := tk } :=
  UnrEnd.intro F N (led d) (fun p hp => by
    rcases List.mem_cons.mp hp with rfl | hp
    · exact hI
    · exact sub p hp) off ⟨hm, d, hk, rfl, hP⟩
theorem list_dataK {D : Type} {l : Addr} {vs : List Value} {m₀ : Str → Option Value} (names : List Str) (kn : D → List (Str × Value)) (led : D → List (Addr × Obj)) (P : Nat → D → Prop) (d₀ : D)
    (hh : A.handled = none) (hl : h₀.IsList l vs.toArray) (F : Fr h₀ env.locals s.heap m₀) (N : News h₀ env.locals s.heap (led d₀)) (hk0 : ∀ p ∈ kn d₀, m₀ p.1 = some p.2) (h0 : P 0 d₀)
    (turn : ∀ I : Addr, (∀ p ∈ led d₀, p.1 < I) → ∀ i v, vs[i]? = some v → ∀ u d, P i d → (∀ p ∈ led d, p.1 ≠ I) → ∀ it h tk, Fr h₀ env.locals h (fun y => if y = x then some v else lay (kn d) (ovr names u m₀) y) →
      News h₀ env.locals h ((I, it) :: led d) →
      wpAny (model prog w) A (execs body env) (UnrPost h₀ env.locals { s with heap := h, toks := tk } I it (TurnedK names m₀ kn led (P (i + 1))) Q) E { s with heap := h, toks := tk })
    (done : ∀ u d, P vs.length d → ∀ h tk, Fr h₀ env.locals h (lay (kn d) (ovr names u m₀)) → News h₀ env.locals h (led d) → Q .next { s with heap := h, toks := tk }) :
    wpAny (model prog w) A (pyIter (.ref l)) (fun it s₂ => LoopAtV prog w A h₀ env x body Q E it s₂) E s := by
  refine list_inv (fun i => TurnedK names m₀ kn led (P i)) hh hl F N ⟨fun _ _ => rfl, d₀, hk0, rfl, h0⟩ ?_ ?_
  · rintro I hI i v hv m news ⟨hm, d, hk, rfl, hP⟩ hoff it h tk F₁ N₁
    rw [lay_of (kn d) (ovr names m m₀) m (ovr_of names m₀ m hm) hk] at F₁
    exact turn I hI i v hv m d hP hoff it h tk F₁ N₁
  · rintro m news ⟨hm, d, hk, rfl, hP⟩ h tk F₁ N₁
    rw [lay_of (kn d) (ovr names m m₀) m (ovr_of names m₀ m hm) hk] at F₁
    exact done m d hP h tk F₁ N₁
theorem range_dataK {D : Type} {r : Addr} {a₀ b₀ : Int} {t₀ u₀ v₀ : Tok} {n : Nat} {m₀ : Str → Option Value} (names : List Str) (kn : D → List (Str × Value)) (led : D → List (Addr × Obj)) (P : Nat → D → Prop) (d₀ : D)
    (hh : A.handled = none) (hr : IsRange s.heap r a₀ b₀ 1 t₀ u₀ v₀) (hsmall : Builtin.Range.small a₀ b₀ 1 = true) (hn : Builtin.Range.rangeSize a₀ b₀ 1 = (n : Int)) (F : Fr h₀ env.locals s.heap m₀) (N : News h₀ env.locals s.heap (led d₀))
    (hk0 : ∀ p ∈ kn d₀, m₀ p.1 = some p.2) (h0 : P 0 d₀)
    (turn : ∀ I : Addr, (∀ p ∈ led d₀, p.1 < I) → ∀ i, i < n → ∀ u d, P i d → ∀ t h tk, Fr h₀ env.locals h (fun y => if y = x then some (.int (a₀ + (i : Int)) t) else lay (kn d) (ovr names u m₀) y) →
      News h₀ env.locals h ((I, itR (a₀ + ((i + 1 : Nat) : Int)) ((n : Int) - ((i + 1 : Nat) : Int))) :: led d) →
      wpAny (model prog w) A (execs body env) (UnrPost h₀ env.locals { s with heap := h, toks := tk } I (itR (a₀ + ((i + 1 : Nat) : Int)) ((n : Int) - ((i + 1 : Nat) : Int))) (TurnedK names m₀ kn led (P (i + 1))) Q) E { s with heap := h, toks := tk })
    (done : ∀ u d, P n d → ∀ h tk, Fr h₀ env.locals h (lay (kn d) (ovr names u m₀)) → News h₀ env.locals h (led d) → Q .next { s with heap := h, toks := tk }) :
    wpAny (model prog w) A (pyIter (.ref r)) (fun it s₂ => LoopAtV prog w A h₀ env x body Q E it s₂) E s := by
  refine range_inv (fun i => TurnedK names m₀ kn led (P i)) hh hr hsmall hn F N ⟨fun _ _ => rfl, d₀, hk0, rfl, h0⟩ ?_ ?_
  · rintro I hI i hi m news ⟨hm, d, hk, rfl, hP⟩ t h tk F₁ N₁
    rw [lay_of (kn d) (ovr names m m₀) m (ovr_of names m₀ m hm) hk] at F₁
    exact turn I hI i hi m d hP t h tk F₁ N₁
  · rintro m news ⟨hm, d, hk, rfl, hP⟩ h tk F₁ N₁
    rw [lay_of (kn d) (ovr names m m₀) m (ovr_of names m₀ m hm) hk] at F₁
    exact done m d hP h tk F₁ N₁
theorem offI_of {I : Addr} {it : Obj} : ∀ {l : List (Addr × Obj)}, (∀ p ∈ l, p.1 ≠ I) → OffI I it l
  | [], _ => True.intro
  | p :: r, h => ⟨.inl (h p (.head _)), offI_of fun q hq => h q (.tail _ hq)⟩
theorem revRest_inv {I : Addr} {lp : Addr × Obj} {all : List Value} (Inv : Nat → (Str → Option Value) → List (Addr × Obj) → Prop) (hlp : ∀ i m news, Inv i m news → lp ∈ news)
    (turn : ∀ i v, all[i]? = some v → ∀ m news, Inv i m news → ∀ it h tk, Fr h₀ env.locals h (fun y => if y = x then some v else m y) → News h₀ env.locals h ((I, it) :: news) →
      wpAny (model prog w) A (execs body env) (UnrPost h₀ env.locals { s with heap := h, toks := tk } I it (Inv (i + 1)) Q) E { s with heap := h, toks := tk })
    (done : ∀ m news, Inv all.length m news → ∀ h tk, Fr h₀ env.locals h m → News h₀ env.locals h news → Q .next { s with heap := h, toks := tk }) :
    ∀ (r : List Value) i, all.drop i = r → i ≤ all.length → ∀ m news, Inv i m news → RevRest prog w A E h₀ env x body Q s I lp r m news := by
  intro r
  induction r with
  | nil =>
    intro i hi hle m news hInv
    have h1 : all.length ≤ i := by
      have := congrArg List.length hi
      rw [List.length_drop, List.length_nil] at this
      lia
    have : i = all.length := by lia
    subst this
    exact done m news hInv
  | cons v r ih =>
    intro i hi hle m news hInv it h tk _ F N
    have hlt : i < all.length := by
      have := congrArg List.length hi
      rw [List.length_drop, List.length_cons] at this
      lia
    have hd := List.drop_eq_getElem_cons hlt
    rw [hi] at hd
    obtain ⟨e1, e2⟩ := List.cons.inj hd
    refine wpAny_mono (turn i v (by rw [List.getElem?_eq_getElem hlt, e1]) m news hInv it h tk F N) (fun f s₂ p => unrPost_mono (fun m' n' q => ⟨hlp _ _ _ q, ih (i + 1) e2.symm (by lia) m' n' q⟩) p) fun _ _ e => e
/-- a loop over a made list from behind -/
theorem rev_dataK {D : Type} {ax I : Addr} {lo : Obj} {vs : List Value} {n : Nat} {m₀ : Str → Option Value} (names : List Str) (kn : D → List (Str × Value)) (led : D → List (Addr × Obj)) (P : Nat → D → Prop) (d₀ : D)
    (hh : A.handled = none) (F : Fr h₀ env.locals s.heap m₀) (N : News h₀ env.locals s.heap ((I, revObj ax ((vs.length : Int) - 1)) :: led d₀)) (hof : ∀ p ∈ led d₀, p.1 ≠ I) (hlp : ∀ d, (ax, lo) ∈ led d) (hc : lo.cls = .type "list") (hd : lo.data = .seq vs.toArray n)
    (hk0 : ∀ p ∈ kn d₀, m₀ p.1 = some p.2) (h0 : P 0 d₀)
    (turn : ∀ i v, vs.reverse[i]? = some v → ∀ u d, P i d → ∀ it h tk, Fr h₀ env.locals h (fun y => if y = x then some v else lay (kn d) (ovr names u m₀) y) →
      News h₀ env.locals h ((I, it) :: led d) →
      wpAny (model prog w) A (execs body env) (UnrPost h₀ env.locals { s with heap := h, toks := tk } I it (TurnedK names m₀ kn led (P (i + 1))) Q) E { s with heap := h, toks := tk })
    (done : ∀ u d, P vs.length d → ∀ h tk, Fr h₀ env.locals h (lay (kn d) (ovr names u m₀)) → News h₀ env.locals h (led d) → Q .next { s with heap := h, toks := tk }) :
    wpAny (model prog w) A (pyIter (.ref I)) (fun it s₂ => LoopAtV prog w A h₀ env x body Q E it s₂) E s := by
  refine iter_revUnr hh F N (offI_of hof) (hlp d₀) hc hd (revRest_inv (all := vs.reverse) (fun i => TurnedK names m₀ kn led (P i)) ?_ ?_ ?_ vs.reverse 0 rfl (Nat.zero_le _) m₀ (led d₀) ⟨fun _ _ => rfl, d₀, hk0, rfl, h0⟩)
  · rintro i m news ⟨_, d, _, rfl, _⟩
    exact hlp d
  · rintro i v hv m news ⟨hm, d, hk, rfl, hP⟩ it h tk F₁ N₁
    rw [lay_of (kn d) (ovr names m m₀) m (ovr_of names m₀ m hm) hk] at F₁
    exact turn i v hv m d hP it h tk F₁ N₁
  · rintro m news ⟨hm, d, hk, rfl, hP⟩ h tk F₁ N₁
    rw [lay_of (kn d) (ovr names m m₀) m (ovr_of names m₀ m hm) hk] at F₁
    rw [List.length_reverse] at hP
    exact done m d hP h tk F₁ N₁
end
end
section
/-- a list's ints and its stamp -/
structure Ls where
  vs : List Value
  ns : List Int
  k : Nat
section
variable {prog : Program} {w : World} {A : Around} {E : Value → Shared → Prop} {s : Shared}
theorem item_at {value slice : PySem.Expr} {l : Addr} {vs : List Value} {ns : List Int} {k : Int} {u : Tok} {Q : Value → Shared → Prop}
    (hl : s.heap.IsList l vs.toArray) (hI : IntsAre vs ns) (h0 : 0 ≤ k) (hk : k < (ns.length : Int)) (hb : ns.length < 2 ^ 62) (h : ∀ t, Q (.int (ns.getD k.toNat 0) t) s)
    (hs : subscripted slice false (.ref l) (.int k u) = operate [.ref l, .int k u] (getItem (.ref l) (.int k u)) := by with_unfolding_all rfl) :
    wpAny (model prog w) A (subscriptTail value slice (.ref l) (.int k u)) Q E s := by
  have hlt : k.toNat < ns.length := by lia
  obtain ⟨t, ht⟩ := hI.get k.toNat (ns.getD k.toNat 0) (by simp [List.getD, hlt])
  have h63 : k < 2 ^ 63 := by
    have h1 : (2 : Int) ^ 62 < 2 ^ 63 := by decide
    have h2 : (ns.length : Int) < 2 ^ 62 := by exact_mod_cast hb
    lia
  exact tail_any hl.typeIs slot_list_getitem.lookup (wpAny_getItem_list hl h0 h63 (by simpa using ht) (h t)) hs

theorem fm_ge (y : Int) {n : Int} (h : 0 < n) : 0 ≤ y.fmod n := Int.fmod_nonneg_of_pos y h
theorem fm_lt (y : Int) {n : Int} (h : 0 < n) : y.fmod n < n := Int.fmod_lt_of_pos y h
/-- a sign of a written text -/
theorem item_lit {value slice : Expr} {x : Str} {t : Tok} {Q : Value → Shared → Prop} {y n : Int} {u : Tok} (hn : 0 < n) (hn' : n < 1000) (hl : (x.length : Int) = n) (hb : (x.cps.toList.all fun c => decide (c < 55296)) = true)
    (h : ∀ c : Nat, c < 55296 → ∀ t', Q (.str ⟨#[c]⟩ t') { s with toks := s.toks + 1 })
    (hs : subscripted slice false (.str x t) (.int (y.fmod n) u) = operate [.str x t, .int (y.fmod n) u] (getItem (.str x t) (.int (y.fmod n) u)) := by with_unfolding_all rfl)
    (ht : ∀ r, letTemporaryGo value (.str x t) r = pure () := by intro _; with_unfolding_all rfl) :
    wpAny (model prog w) A (subscriptTail value slice (.str x t) (.int (y.fmod n) u)) Q E s := by
  have h0 := fm_ge y hn
  have h1 := fm_lt y hn
  generalize hk : y.fmod n = k at *
  refine item_str ?_ (by lia) (by lia) (fun _ => ?_) hs ht
  · simp only [fitsSsize]; simp; constructor <;> lia
  · have hlen : k.toNat < x.cps.size := by have : x.length = x.cps.size := rfl; lia
    rw [item_meets ⟨h0, by lia⟩]
    refine h _ (of_decide_eq_true (List.all_eq_true.mp hb _ ?_)) _
    simp [Array.getD, hlen]

theorem append_list {h₀ : Heap} {L D : Addr} {m : Str → Option Value} {news news' : List (Addr × Obj)} {vs : List Value} {n : Nat} {x : Value} {Q : Value → Shared → Prop} (F : Fr h₀ L s.heap m) (N : News h₀ L s.heap news)
    (U : Upd D (W.listOf vs.toArray n) (W.listOf (vs ++ [x]).toArray (n + 1)) news news') (hsz : vs.length ≤ sizeLine)
    (h : ∀ h', Fr h₀ L h' m → News h₀ L h' news' → Q .none { s with heap := h' }) : wpAny (model prog w) A (call (.builtin "list.append") [.ref D, x]) Q E s := by
  refine append_K F N (its := vs.toArray) (n := n) (news' := news') ?_ h (by simpa using hsz)
  have : vs.toArray.push x = (vs ++ [x]).toArray := by simp
  rw [this]; exact U

/-- an item of a written list of ints, at a remainder -/
theorem item_menu {value slice : PySem.Expr} {h₀ : Heap} {L l : Addr} {news : List (Addr × Obj)} {vs : List Value} {ns : List Int} {kk : Nat} {y n : Int} {u : Tok} {Q : Value → Shared → Prop}
    (N : News h₀ L s.heap news) (hm : (l, W.listOf vs.toArray kk) ∈ news) (hI : IntsAre vs ns) (hn : 0 < n) (hn' : n < 1000) (hl : (ns.length : Int) = n) (hb : (ns.all fun c => decide (0 ≤ c ∧ c < 55296)) = true) (h : ∀ c, 0 ≤ c ∧ c < 55296 → ∀ t, Q (.int c t) s)
    (hs : subscripted slice false (.ref l) (.int (y.fmod n) u) = operate [.ref l, .int (y.fmod n) u] (getItem (.ref l) (.int (y.fmod n) u)) := by with_unfolding_all rfl) :
    wpAny (model prog w) A (subscriptTail value slice (.ref l) (.int (y.fmod n) u)) Q E s := by
  have h0 := fm_ge y hn
  have h1 := fm_lt y hn
  generalize hk : y.fmod n = k at *
  refine item_at (N.isList hm) hI h0 (by lia) (by lia) (fun t => h _ (of_decide_eq_true (List.all_eq_true.mp hb _ ?_)) t) hs
  have : k.toNat < ns.length := by lia
  simp [List.getD, this]

theorem len_made {h₀ : Heap} {L l : Addr} {news : List (Addr × Obj)} {vs : List Value} {k n : Nat} {Q : Value → Shared → Prop} (N : News h₀ L s.heap news) (hm : (l, W.listOf vs.toArray k) ∈ news) (hn : vs.length = n) (hz : n < 2 ^ 62)
    (h : Q (.int (n : Int) (s.toks + 1)) { s with toks := s.toks + 1 + 1 }) : wpAny (model prog w) A (call (.builtin "len") [.ref l]) Q E s := by
  refine len_list (N.isList hm) ?_ ?_
  · rw [List.size_toArray, hn]
    have h1 : (2 : Int) ^ 62 < 2 ^ 63 := by decide
    have h2 : (n : Int) < 2 ^ 62 := by exact_mod_cast hz
    lia
  · rw [List.size_toArray, hn]; exact h
theorem len_base {h₀ : Heap} {L l : Addr} {m : Str → Option Value} {vs : List Value} {ns : List Int} {Q : Value → Shared → Prop} (F : Fr h₀ L s.heap m) (hl : h₀.IsList l vs.toArray) (hI : IntsAre vs ns) (hz : ns.length < 2 ^ 62)
    (h : Q (.int (ns.length : Int) (s.toks + 1)) { s with toks := s.toks + 1 + 1 }) : wpAny (model prog w) A (call (.builtin "len") [.ref l]) Q E s := by
  refine len_list (hl.at fun o e => F.keep _ _ e) ?_ ?_
  · rw [List.size_toArray, hI.length]
    have h1 : (2 : Int) ^ 62 < 2 ^ 63 := by decide
    have h2 : (ns.length : Int) < 2 ^ 62 := by exact_mod_cast hz
    lia
  · rw [List.size_toArray, hI.length]; exact h
theorem last_snoc : ∀ (vs : List Value) (v : Value), kl_last (vs ++ [v]) = some (vs, v)
  | [], v => rfl
  | x :: r, v => by
    show kl_last (x :: (r ++ [v])) = _
    unfold kl_last
    rw [last_snoc r v]
theorem pop_made {h₀ : Heap} {L D : Addr} {m : Str → Option Value} {news news' : List (Addr × Obj)} {vs : List Value} {v : Value} {n : Nat} {Q : Value → Shared → Prop} (F : Fr h₀ L s.heap m) (N : News h₀ L s.heap news)
    (U : Upd D (W.listOf (vs ++ [v]).toArray n) (W.listOf vs.toArray (n + 1)) news news') (hz : (vs ++ [v]).length ≤ sizeLine) (h : ∀ h', Fr h₀ L h' m → News h₀ L h' news' → Q v { s with heap := h' }) :
    wpAny (model prog w) A (call (.builtin "list.pop") [.ref D]) Q E s :=
  kl_pop F N (by simpa using last_snoc vs v) U (by simpa using hz) h
theorem rev_made {h₀ : Heap} {L D : Addr} {m : Str → Option Value} {news news' : List (Addr × Obj)} {vs : List Value} {n : Nat} {Q : Value → Shared → Prop} (F : Fr h₀ L s.heap m) (N : News h₀ L s.heap news)
    (U : Upd D (W.listOf vs.toArray n) (W.listOf vs.reverse.toArray n) news news') (hz : vs.length ≤ sizeLine) (h : ∀ h', Fr h₀ L h' m → News h₀ L h' news' → Q .none { s with heap := h' }) :
    wpAny (model prog w) A (call (.builtin "list.reverse") [.ref D]) Q E s :=
  kl_reverse F N (by simp) U (by simpa using hz) h
theorem add_made {h₀ : Heap} {L l b : Addr} {m : Str → Option Value} {news : List (Addr × Obj)} {vs ws : List Value} {k j : Nat} {Q : Value → Shared → Prop} (F : Fr h₀ L s.heap m) (N : News h₀ L s.heap news)
    (ml : (l, W.listOf vs.toArray k) ∈ news) (mb : (b, W.listOf ws.toArray j) ∈ news) (hz : vs.length + ws.length ≤ sizeLine)
    (h : ∀ a' h', Fr h₀ L h' m → News h₀ L h' ((a', W.listOf (vs ++ ws).toArray 0) :: news) → (∀ p ∈ news, p.1 < a') → Q (.ref a') { s with heap := h' }) :
    wpAny (model prog w) A (binaryOp .Add (.ref l) (.ref b)) Q E s :=
  add_lists F N (N.isList ml) (N.isList mb) (fun h' F' N' => h _ h' F' N' fun p hp => Heap.lt_size (N p hp).1) hz
theorem newl_made {h₀ : Heap} {L : Addr} {m : Str → Option Value} {news : List (Addr × Obj)} {vs : List Value} {Q : Value → Shared → Prop} (F : Fr h₀ L s.heap m) (N : News h₀ L s.heap news)
    (h : ∀ a' h', Fr h₀ L h' m → News h₀ L h' ((a', W.listOf vs.toArray 0) :: news) → (∀ p ∈ news, p.1 < a') → Q (.ref a') { s with heap := h' }) (hsz : vs.length ≤ sizeLine) :
    wpAny (model prog w) A (newList vs) Q E s :=
  newList_N F N (fun h' F' N' => h _ h' F' N' fun p hp => Heap.lt_size (N p hp).1) hsz
theorem fold_rep (v : Value) : ∀ (k : Nat) (acc : List Value), List.foldl (fun x1 x2 => x1 ++ x2) acc.toArray (List.replicate k #[v]) = (acc ++ List.replicate k v).toArray
  | 0, acc => by simp
  | k + 1, acc => by
    have e : acc.toArray ++ #[v] = (acc ++ [v]).toArray := by simp
    rw [List.replicate_succ, List.foldl_cons, e, fold_rep v k (acc ++ [v]), List.replicate_succ]
    simp
theorem mul_made {h₀ : Heap} {L l : Addr} {m : Str → Option Value} {news : List (Addr × Obj)} {v : Value} {j k : Nat} {u : Tok} {Q : Value → Shared → Prop} (F : Fr h₀ L s.heap m) (N : News h₀ L s.heap news)
    (ml : (l, W.listOf [v].toArray j) ∈ news) (hz : k ≤ 2 ^ 20)
    (h : ∀ a' h', Fr h₀ L h' m → News h₀ L h' ((a', W.listOf (List.replicate k v).toArray 0) :: news) → (∀ p ∈ news, p.1 < a') → Q (.ref a') { s with heap := h' }) :
    wpAny (model prog w) A (binaryOp .Mult (.ref l) (.int (k : Int) u)) Q E s := by
  have h20 : (2 : Nat) ^ 20 ≤ 2 ^ 24 := by decide
  refine mul_list F N (N _ ml).1 (by lia) (by lia) (by rw [Int.toNat_natCast]; simp; lia) fun h' F' N' => ?_
  rw [Int.toNat_natCast] at N'
  have e := fold_rep v k []
  refine h _ h' F' ?_ fun p hp => Heap.lt_size (N p hp).1
  have e2 : List.foldl (fun x1 x2 => x1 ++ x2) #[] (List.replicate (if ([v].toArray).isEmpty = true then 0 else k) [v].toArray) = (List.replicate k v).toArray := by
    rw [if_neg (by simp)]; simpa using e
  rw [e2] at N'
  exact N'
/-- a list of ints as data -/
theorem dat_ints {news : List (Addr × Obj)} : ∀ {vs : List Value} {ns : List Int}, IntsAre vs ns → DatAll news vs (ns.map Dat.int)
  | _, _, .nil => .nil
  | _, _, .cons n t r => .cons (.int n t) (dat_ints r)
theorem ints_dat {news : List (Addr × Obj)} : ∀ {vs : List Value} {ns : List Int}, DatAll news vs (ns.map Dat.int) → IntsAre vs ns
  | [], [], _ => .nil
  | [], _ :: _, h => nomatch h
  | v :: vs, [], h => nomatch h
  | v :: vs, n :: ns, .cons h r => by
    cases h with
    | int _ t => exact .cons n t (ints_dat r)
end
end
section
section
variable {prog : Program} {w : World} {A₀ A : Around} {s : Shared} {base h₀ : Heap} {outer : List Env} {L : Addr} {m mg mb : Str → Option Value} {env : Env} {led : List (Addr × Obj)} {K : Frag} {p : Program} {loose : List Str} {mean : ExcName → Option Value}
  {R : Result → Shared → Prop} {name qual : Str} {params : Arguments} {body : List Stmt} {scope : Scope} {cl : List (Str × Addr)} {dV kV doc pm cdv ct oc : Value} {an od : Option Addr} {osl : Array (Option Value)} {fo : Obj} {f : Addr} {args : Args} {binds : List (Str × Value)}

/-- a def whose names are kept by an inner def, entered -/
theorem enterC (B : Below A₀ base outer h₀) (F : Fr h₀ L s.heap m) (X₀ : K.In h₀) (N : News h₀ L s.heap led) (T : Top p loose mean mg mb h₀) (hA : A.frames = some (env :: outer)) (hf : env.frame = some L) (hke : env.scope.kind = .function)
    (ho : K.lookup f = some ⟨oc, od, .func (fnOf name qual params body scope dV kV doc pm an cdv ct), osl⟩) (hcd : codeIn K cdv qual = true) (hroom : A.depth < recursionLimit)
    (hbind : BindsTo s (fnOf name qual params body scope dV kV doc pm an cdv ct) args binds) (hkind : (binds.all fun y => scope.names.lookup y.1 == some .local || scope.names.lookup y.1 == some .cell) = true)
    (hnd : ((cellsFrom 0 scope.names []).map (·.1)).Nodup)
    (h : ∀ g L' h₁ tk cells, g = hideAll s.heap (led.map (·.1)) → Fr g L' h₁ (bindL (envOfC qual scope L' f cdv).kindOf binds fun _ => none) → News g L' h₁ (cells ++ led) →
      CellsAre (bindC (envOfC qual scope L' f cdv).kindOf binds fun _ => none) (cellsFrom (L' + 1) scope.names []) cells → Below A base (env :: outer) g → K.In g → Top p loose mean mg mb g → (∀ p ∈ led, p.1 < L') →
      wpAny (model prog w) (A.deeper (envOfC qual scope L' f cdv)) (execs body (envOfC qual scope L' f cdv))
        (fun fl s' => R (.ok (.ret (match fl with | .ret v => v | _ => .none))) s')
        (fun e s' => wpAny (model prog w) (A.deeper (envOfC qual scope L' f cdv)) (leaving (envOfC qual scope L' f cdv) e) (fun _ s'' => R (.error e) s'') (fun e' s'' => R (.error e') s'') s')
        { s with heap := h₁, toks := tk })
    (hco : scope.isCoroutine = false) (hgen : scope.isGenerator = false) (hk : scope.kind = .function) : codeAny (model prog w) A (.call (.ref f) args) R s := by
  obtain ⟨_, BG, st, _⟩ := groundX (R := R) B F N hA hf hke
  have X := X₀.keeps F.keep
  refine codeAny_call_function hroom (X _ _ ho) rfl hco hgen rfl (codeRec_of X hcd) (hbind _ _ _ _ ?_)
  refine wpAny_newFunctionEnv_cells hk (kindsX hkind _) fun env' he s' x => ?_
  subst he
  have hk₁ := x.toInCall.keep
  refine ⟨(T.nolimit.keeps F.keep).keeps hk₁, codeAny_func ?_⟩
  obtain ⟨h₁, tk, rfl, _⟩ := x.done
  have hnd' := cellsFrom_names scope.names 0 (s.heap.objs.size + 1) [] [] rfl ▸ hnd
  obtain ⟨cells, NC, Y⟩ := Cl.news (h₀ := s.heap) (Nat.le_refl _) fun n c hm => ⟨x.cell n c (lookup_of_mem_nodup hnd' hm), x.above n c hm⟩
  refine h _ s.heap.objs.size h₁ tk cells rfl ⟨x.toInCall.ns, fun b o e => hk₁ b o (of_hideAll _ e), Nat.le_of_eq (hideAll_size _ _)⟩ (fun p hp => ?_) Y BG (X₀.keeps st) (T.keeps st) fun p hp => Heap.lt_size (N p hp).1
  rcases List.mem_append.mp hp with hp | hp
  · refine ⟨(NC p hp).1, (NC p hp).2.1, ?_⟩
    cases q : (hideAll s.heap (led.map (·.1))).get? p.1 with
    | none => rfl
    | some o => exact absurd (NC p hp).2.2 (by rw [of_hideAll _ q]; nofun)
  · exact ⟨hk₁ _ _ (N p hp).1, Nat.ne_of_lt (Heap.lt_size (N p hp).1), hideAll_none _ (List.mem_map_of_mem hp)⟩

/-- an inner def called -/
theorem enterX (B : Below A₀ base outer h₀) (F : Fr h₀ L s.heap m) (X₀ : K.In h₀) (N : News h₀ L s.heap led) (T : Top p loose mean mg mb h₀) (hA : A.frames = some (env :: outer)) (hf : env.frame = some L) (hke : env.scope.kind = .function)
    (ho : s.heap.get? f = some fo) (hd : fo.data = .func (fnX name qual params body scope cl dV kV doc pm an cdv ct)) (hcd : s.heap.CodeRec cdv qual) (hroom : A.depth < recursionLimit)
    (hbind : BindsTo s (fnX name qual params body scope cl dV kV doc pm an cdv ct) args binds) (hloc : ∀ y ∈ binds, scope.names.lookup y.1 = some .local)
    (h : ∀ g L' h₁, g = hideAll s.heap (led.map (·.1)) → Fr g L' h₁ (fun y => binds.reverse.lookup y) → News g L' h₁ led → Below A base (env :: outer) g → K.In g → Top p loose mean mg mb g → (∀ p ∈ led, p.1 < L') →
      wpAny (model prog w) (A.deeper (envX qual scope L' f cdv cl)) (execs body (envX qual scope L' f cdv cl))
        (fun fl s' => R (.ok (.ret (match fl with | .ret v => v | _ => .none))) s')
        (fun e s' => wpAny (model prog w) (A.deeper (envX qual scope L' f cdv cl)) (leaving (envX qual scope L' f cdv cl) e) (fun _ s'' => R (.error e) s'') (fun e' s'' => R (.error e') s'') s')
        { s with heap := h₁, toks := s.toks + binds.length })
    (hco : scope.isCoroutine = false) (hgen : scope.isGenerator = false) (hk : scope.kind = .function)
    (hcell : ∀ x ∈ scope.names, x.2 ≠ .cell) : codeAny (model prog w) A (.call (.ref f) args) R s := by
  obtain ⟨_, BG, st, _⟩ := groundX (R := R) B F N hA hf hke
  refine codeAny_call_def (fd := fnX name qual params body scope cl dV kV doc pm an cdv ct) (body := body) (binds := binds) hroom ho hd (T.nolimit.keeps F.keep) hcd rfl hbind hcell hloc (fun h₁ hns hk₁ => ?_) hco hgen hk
  exact h _ s.heap.objs.size h₁ rfl ⟨hns, fun b o e => hk₁ b o (of_hideAll _ e), Nat.le_of_eq (hideAll_size _ _)⟩
    (fun p hp => ⟨hk₁ _ _ (N p hp).1, Nat.ne_of_lt (Heap.lt_size (N p hp).1), hideAll_none _ (List.mem_map_of_mem hp)⟩) BG (X₀.keeps st) (T.keeps st) (fun p hp => Heap.lt_size (N p hp).1)
end
end
section
/-- digits, the lowest first, to the number -/
noncomputable def dval (n : Nat) : List Int → Int
  | [] => 0
  | d :: r => d + dval n r * 2 ^ n
theorem dval_append (n : Nat) : ∀ a b : List Int, dval n (a ++ b) = dval n a + dval n b * 2 ^ (a.length * n)
  | [], b => by simp [dval]
  | d :: r, b => by
    show d + dval n (r ++ b) * 2 ^ n = d + dval n r * 2 ^ n + dval n b * 2 ^ ((r.length + 1) * n)
    rw [dval_append n r b, Nat.add_mul, Nat.one_mul, Int.pow_add, Int.add_mul, Int.mul_assoc, Int.add_assoc]
theorem dval_bound (n : Nat) : ∀ a : List Int, (∀ d ∈ a, 0 ≤ d ∧ d < 2 ^ n) → 0 ≤ dval n a ∧ dval n a < 2 ^ (a.length * n)
  | [], _ => by simp [dval]
  | d :: r, h => by
    have h1 := h d (.head _)
    have h2 := dval_bound n r fun x hx => h x (.tail _ hx)
    have e : (2 : Int) ^ ((r.length + 1) * n) = 2 ^ (r.length * n) * 2 ^ n := by rw [Nat.add_mul, Nat.one_mul, Int.pow_add]
    show 0 ≤ d + dval n r * 2 ^ n ∧ d + dval n r * 2 ^ n < 2 ^ ((r.length + 1) * n)
    rw [e]
    have hp : (0 : Int) < 2 ^ n := Int.pow_pos (by decide)
    generalize (2 : Int) ^ n = p at *
    generalize (2 : Int) ^ (r.length * n) = q at *
    generalize dval n r = x at *
    have a1 : 0 ≤ x * p := Int.mul_nonneg h2.1 (by lia)
    have a2 : (x + 1) * p ≤ q * p := Int.mul_le_mul_of_nonneg_right (by lia) (by lia)
    rw [Int.add_mul, Int.one_mul] at a2
    lia
/-- a stretch of the digits -/
noncomputable def span (ns : List Int) (lo hi : Nat) : List Int := (ns.drop lo).take (hi - lo)
theorem span_split {ns : List Int} {lo mid hi : Nat} (h1 : lo ≤ mid) (h2 : mid ≤ hi) : span ns lo hi = span ns lo mid ++ span ns mid hi := by
  unfold span
  have e : hi - lo = (mid - lo) + (hi - mid) := by lia
  rw [e, List.take_add, List.drop_drop]
  congr 3
  lia
theorem span_length {ns : List Int} {lo hi : Nat} (h1 : lo ≤ hi) (h2 : hi ≤ ns.length) : (span ns lo hi).length = hi - lo := by
  unfold span; rw [List.length_take, List.length_drop]; lia
theorem span_one {ns : List Int} {lo : Nat} (h : lo < ns.length) : span ns lo (lo + 1) = [ns[lo]] := by
  unfold span
  rw [Nat.add_sub_cancel_left, List.drop_eq_getElem_cons h]; rfl
theorem span_all (ns : List Int) : span ns 0 ns.length = ns := by unfold span; simp
theorem span_mem {ns : List Int} {lo hi : Nat} {d : Int} (h : d ∈ span ns lo hi) : d ∈ ns := List.mem_of_mem_drop (List.mem_of_mem_take h)
theorem dval_span {n : Nat} {ns : List Int} {lo mid hi : Nat} (h1 : lo ≤ mid) (h2 : mid ≤ hi) (h3 : hi ≤ ns.length) :
    dval n (span ns lo hi) = dval n (span ns mid hi) * 2 ^ ((mid - lo) * n) + dval n (span ns lo mid) := by
  rw [span_split h1 h2, dval_append, span_length h1 (Nat.le_trans h2 h3), Int.add_comm]
section
variable {prog : Program} {w : World} {A : Around} {E : Value → Shared → Prop} {s : Shared} {Q : Value → Shared → Prop} {t u : Tok}
theorem r_half {a b : Nat} (h : Q (.int (((a + b) / 2 : Nat) : Int) s.toks) { s with toks := s.toks + 1 }) : wpAny (model prog w) A (binaryOp .RShift (.int ((a : Int) + (b : Int)) t) (.int 1 u)) Q E s := by
  refine rshift_int (by decide) ?_
  have e : ((a : Int) + (b : Int)).fdiv (2 ^ (Int.toNat 1)) = (((a + b) / 2 : Nat) : Int) := by
    show ((a : Int) + (b : Int)).fdiv (2 ^ 1) = _
    rw [Int.fdiv_eq_ediv_of_nonneg _ (by decide)]
    lia
  rw [e]; exact h
theorem r_width {a b n : Nat} (hb : b ≤ a) (hn : n ≤ 2 ^ 20) (h : Q (.int (((a - b) * n : Nat) : Int) s.toks) { s with toks := s.toks + 1 }) : wpAny (model prog w) A (binaryOp .Mult (.int ((a : Int) - (b : Int)) t) (.int (n : Int) u)) Q E s := by
  refine mul_int ?_ (IntMulOk.of_right ?_)
  · have e : ((a : Int) - (b : Int)) * (n : Int) = (((a - b) * n : Nat) : Int) := by rw [Int.natCast_mul, Int.natCast_sub hb]
    rw [e]; exact h
  · refine intBits_le_iff.mpr ?_
    have : (2 : Nat) ^ 20 < 2 ^ 64 := by decide
    lia
theorem r_shl {x : Int} {j k : Nat} (h0 : 0 ≤ x) (h1 : x < 2 ^ j) (hz : j + k ≤ 2 ^ 20) (h : Q (.int (x * 2 ^ k) s.toks) { s with toks := s.toks + 1 }) : wpAny (model prog w) A (binaryOp .LShift (.int x t) (.int (k : Int) u)) Q E s := by
  refine lshift_int (by lia) ?_ (by rw [Int.toNat_natCast]; exact h)
  have hb : Builtin.Int.intBits x ≤ j := intBits_le_iff.mpr (by
    have h2 : ((x.natAbs : Nat) : Int) < ((2 ^ j : Nat) : Int) := by rw [Int.natAbs_of_nonneg h0]; push_cast; exact h1
    exact_mod_cast h2)
  have : (2 : Int) ^ 20 < 2 ^ 27 := by decide
  have h3 : ((j + k : Nat) : Int) ≤ 2 ^ 20 := by exact_mod_cast hz
  lia
end
end
section
theorem nat_low (x k : Nat) : x &&& (x / 2 ^ k * 2 ^ k) = x / 2 ^ k * 2 ^ k := by
  have e : x / 2 ^ k * 2 ^ k = (x >>> k) <<< k := by rw [Nat.shiftLeft_eq, Nat.shiftRight_eq_div_pow]
  rw [e]
  apply Nat.eq_of_testBit_eq
  intro i
  rw [Nat.testBit_and, Nat.testBit_shiftLeft, Nat.testBit_shiftRight]
  by_cases h : k ≤ i
  · have : k + (i - k) = i := by lia
    simp [h, this]
  · have : ¬ i ≥ k := h
    simp [this]
theorem xor_low {x : Int} {k : Nat} (h : 0 ≤ x) : Builtin.bitXor x (x / 2 ^ k * 2 ^ k) = x % 2 ^ k := by
  obtain ⟨n, rfl⟩ := Int.eq_ofNat_of_zero_le h
  have e1 : ((n : Int) / 2 ^ k * 2 ^ k) = ((n / 2 ^ k * 2 ^ k : Nat) : Int) := by push_cast; rfl
  rw [bitXor_and, e1, bitAnd_pp (by lia) (by lia), Int.toNat_natCast, Int.toNat_natCast, nat_low, ← e1]
  have := Int.emod_add_mul_ediv (n : Int) (2 ^ k)
  have e2 : (2 : Int) ^ k * ((n : Int) / 2 ^ k) = (n : Int) / 2 ^ k * 2 ^ k := Int.mul_comm _ _
  lia
/-- the digits of a number, the lowest first -/
noncomputable def digs (n : Nat) : Nat → Int → List Int
  | 0, _ => []
  | k + 1, x => x % 2 ^ n :: digs n k (x / 2 ^ n)
theorem digs_length (n : Nat) : ∀ (k : Nat) (x : Int), (digs n k x).length = k
  | 0, _ => rfl
  | k + 1, x => by show (digs n k (x / 2 ^ n)).length + 1 = k + 1; rw [digs_length n k]
theorem digs_bound (n : Nat) : ∀ (k : Nat) (x : Int), ∀ d ∈ digs n k x, 0 ≤ d ∧ d < 2 ^ n
  | 0, _ => fun _ h => nomatch h
  | k + 1, x => by
    intro d hd
    have hp : (0 : Int) < 2 ^ n := Int.pow_pos (by decide)
    rcases List.mem_cons.mp hd with rfl | hd
    · exact ⟨Int.emod_nonneg _ (by lia), Int.emod_lt_of_pos _ hp⟩
    · exact digs_bound n k _ d hd
theorem pow_split (n : Nat) (a : Nat) : (2 : Int) ^ (((a + 1) * n : Nat)) = 2 ^ n * 2 ^ (a * n) := by rw [Nat.add_mul, Nat.one_mul, Nat.add_comm, Int.pow_add]
theorem digs_add (n : Nat) : ∀ (a b : Nat) (x : Int), digs n (a + b) x = digs n a (x % 2 ^ (a * n)) ++ digs n b (x / 2 ^ (a * n))
  | 0, b, x => by simp [digs]
  | a + 1, b, x => by
    have hp : (0 : Int) < 2 ^ n := Int.pow_pos (by decide)
    have hq : (0 : Int) < 2 ^ (a * n) := Int.pow_pos (by decide)
    rw [show a + 1 + b = (a + b) + 1 by lia]
    show x % 2 ^ n :: digs n (a + b) (x / 2 ^ n) = x % 2 ^ ((a + 1) * n) % 2 ^ n :: (digs n a (x % 2 ^ ((a + 1) * n) / 2 ^ n) ++ digs n b (x / 2 ^ ((a + 1) * n)))
    rw [digs_add n a b (x / 2 ^ n), pow_split]
    have e1 : x % (2 ^ n * 2 ^ (a * n)) % 2 ^ n = x % 2 ^ n := Int.emod_emod_of_dvd x (Int.dvd_mul_right _ _)
    have e3 : x / (2 ^ n * 2 ^ (a * n)) = x / 2 ^ n / 2 ^ (a * n) := by rw [Int.ediv_ediv_of_nonneg (by lia)]
    have e2 : x % (2 ^ n * 2 ^ (a * n)) / 2 ^ n = x / 2 ^ n % 2 ^ (a * n) := by
      generalize hP : (2 : Int) ^ n = P at *
      generalize hR : (2 : Int) ^ (a * n) = R at *
      rw [Int.emod_def x (P * R), e3, Int.emod_def (x / P) R]
      have e4 : x - P * R * (x / P / R) = x + P * (-(R * (x / P / R))) := by rw [Int.mul_neg, ← Int.mul_assoc]; rfl
      rw [e4, Int.add_mul_ediv_left x _ (by lia)]; rfl
    rw [e1, e2, e3]
theorem digs_one {n : Nat} {x : Int} (h0 : 0 ≤ x) (h1 : x < 2 ^ n) : digs n 1 x = [x] := by
  show [x % 2 ^ n] = [x]
  rw [Int.emod_eq_of_lt h0 h1]
theorem dval_digs (n : Nat) : ∀ (k : Nat) (x : Int), 0 ≤ x → x < 2 ^ (k * n) → dval n (digs n k x) = x
  | 0, x, h0, h1 => by
    rw [Nat.zero_mul, Int.pow_zero] at h1
    show (0 : Int) = x
    lia
  | k + 1, x, h0, h1 => by
    have hp : (0 : Int) < 2 ^ n := Int.pow_pos (by decide)
    rw [pow_split] at h1
    show x % 2 ^ n + dval n (digs n k (x / 2 ^ n)) * 2 ^ n = x
    rw [dval_digs n k (x / 2 ^ n) (Int.ediv_nonneg h0 (by lia)) (Int.ediv_lt_of_lt_mul hp (by rw [Int.mul_comm]; exact h1))]
    have := Int.emod_add_mul_ediv x (2 ^ n)
    have e2 : (2 : Int) ^ n * (x / 2 ^ n) = x / 2 ^ n * 2 ^ n := Int.mul_comm _ _
    lia
section
variable {prog : Program} {w : World} {A : Around} {E : Value → Shared → Prop} {s : Shared} {Q : Value → Shared → Prop} {t u : Tok}
theorem r_shr {x : Int} {k : Nat} (h : Q (.int (x / 2 ^ k) s.toks) { s with toks := s.toks + 1 }) : wpAny (model prog w) A (binaryOp .RShift (.int x t) (.int (k : Int) u)) Q E s := by
  refine rshift_int (by lia) ?_
  rw [Int.toNat_natCast, Int.fdiv_eq_ediv_of_nonneg _ (Int.le_of_lt (Int.pow_pos (by decide)))]
  exact h
theorem r_xor {x : Int} {k : Nat} (h0 : 0 ≤ x) (h : Q (.int (x % 2 ^ k) s.toks) { s with toks := s.toks + 1 }) : wpAny (model prog w) A (binaryOp .BitXor (.int x t) (.int (x / 2 ^ k * 2 ^ k) u)) Q E s := by
  refine xor_int ?_
  rw [xor_low h0]; exact h
theorem r_len {a n : Nat} (hn : 0 < n) (hn2 : n ≤ 2 ^ 10) (h : Q (.int (((a + n - 1) / n : Nat) : Int) s.toks) { s with toks := s.toks + 1 }) : wpAny (model prog w) A (binaryOp .FloorDiv (.int ((a : Int) + (n : Int) - 1) t) (.int (n : Int) u)) Q E s := by
  refine floordiv_int (by lia) ?_ (Or.inl (PyProof.noPylong_small (by lia)))
  have e : ((a : Int) + (n : Int) - 1).fdiv (n : Int) = (((a + n - 1) / n : Nat) : Int) := by
    rw [Int.fdiv_eq_ediv_of_nonneg _ (by lia), Int.natCast_ediv]
    congr 1
    lia
  rw [e]; exact h
end
end
section
local macro_rules | `(tactic| k_room) => `(tactic| ktr_room)
local macro_rules | `(tactic| k_mem) => `(tactic| first | exact List.Mem.head _ | assumption | (refine' List.Mem.tail _ ?_; k_mem) | exact List.mem_append_left _ (by assumption) | (refine' List.mem_append_right _ ?_; k_mem))
local macro_rules | `(tactic| k_ne) => `(tactic| first | (with_reducible assumption) | (with_reducible exact Ne.symm (by assumption)) | exact Nat.ne_of_gt (lt_all (by assumption) (by k_mem)) | exact Nat.ne_of_lt (lt_all (by assumption) (by k_mem)) | exact ne_all (by assumption) (by k_mem) | exact Ne.symm (ne_all (by assumption) (by k_mem)) | fail "k_ne")
local macro_rules | `(tactic| k_all) => `(tactic| first | exact List.forall_mem_nil _ | (with_reducible assumption) | (refine' List.forall_mem_cons.mpr ⟨?a, ?b⟩; (case a => k_ne); (case b => k_all)) | exact List.forall_mem_append.mpr ⟨by k_all, by k_all⟩ | exact lt_sub (by assumption) (fun p hp => by k_mem) | exact ne_sub (by assumption) (fun p hp => by k_mem) | fail "k_all")
local macro_rules | `(tactic| ktr_room) => `(tactic| first | exact room2 (by assumption) rfl | exact room0 (by assumption) | exact room3 (by assumption) rfl)
local macro_rules | `(tactic| ktr_units) => `(tactic| exact unit2 (by assumption) rfl)
section
theorem word1 : True := by
  k_with_none
  k_with "my enter" => ((refine wpAny_call ?_; refine' enterP ?k1 ?k2 ?k3 ?k5 ?kA ?kF ?kK ?k6 ?k7 ?k8 ?k9 ?kB ?_ ?c2 ?c3 ?c4 ?c5; (case kA => exact rfl); (case kF => exact rfl); (case kK => assumption); (case k1 => k_asm); (case k2 => k_asm); (case k3 => k_asm); (case k5 => k_asm); (case k6 => k_is); (case k7 => k_is); (case k8 => ktr_room); (case k9 => exact BindsTo.of_eq rfl); (case c5 => decide); (case kB => exact locs rfl); (case c2 => exact rfl); (case c3 => exact rfl); (case c4 => exact rfl); k_whole))
  k_with "my use" => (((case k1 => k_asm); (case k2 => k_asm); (case k3 => k_asm); (case k4 => k_asm); (case k5 => k_asm); (case kK => first | exact rfl | assumption); (case kd => ktr_room); (case ku => ktr_units)))
  k_with "pyIter ref" => (refine Hold.out ?_)
  k_with "UnrEnd" => (refine Hold.out ?_)
  k_with "callWith" => (((with_reducible show wpAny _ _ (callWith _ (Prod.fst _) (Prod.snd _) _ _) _ _ _); dsimp only; (with_reducible refine callWith_method1 ?_ ?he ?hp); (case he => rfl); (case hp => rfl)))
  k_with "call builtin:list.append" => (((show wpAny _ _ (call (Value.builtin "list.append") [Value.ref _, _]) _ _ _); k_dflt (refine' append_list ?k1 ?k2 ?k3 ?z ?_; (case k1 => k_asm); (case k2 => k_asm); (case k3 => k_upd); (case z => walk_at "my size"); k_whole); intro _ _ _; (try dsimp only)))
  k_with "my size" => (first | with_reducible assumption | exact Nat.le_of_ble_eq_true rfl | (rw [sizeLine_eq]; omega))
  k_with "my fits" => (first | with_reducible assumption | omega)
  k_with "newList" => ((k_dflt (refine' newl_made ?k1 ?k2 ?_ ?z; (case k1 => k_asm); (case k2 => k_asm); (case z => walk_at "my size"); k_whole); intro _ _ _ _ _; (try dsimp only)))
  k_with "call type:reversed" => ((k_here; (with_reducible show wpAny _ _ (call (Value.type _) [Value.ref _]) _ _ _); k_dflt (refine' krv_reversed ?F ?N ?l ?_; (case F => k_asm); (case N => k_asm); (case l => is_list)); intro _ _ _ _ _))
  k_with "call builtin:list.reverse" => (((show wpAny _ _ (call (Value.builtin "list.reverse") [Value.ref _]) _ _ _); k_dflt (refine' rev_made ?k1 ?k2 ?k3 ?z ?_; (case k1 => k_asm); (case k2 => k_asm); (case k3 => k_upd); (case z => walk_at "my size"); k_whole); intro _ _ _; (try dsimp only)))
  k_with "call builtin:len" => (((show wpAny _ _ (call (Value.builtin "len") [Value.ref _]) _ _ _); k_dflt (refine' len_made ?k1 ?k2 ?k3 ?k4 ?_; (case k1 => k_asm); (case k2 => k_mem); (case k3 => (first | exact rfl | assumption)); (case k4 => first | decide | walk_at "my fits")); (try dsimp only)))
  k_with "call builtin:list.pop" => (((show wpAny _ _ (call (Value.builtin "list.pop") [Value.ref _]) _ _ _); k_dflt (refine' pop_made ?k1 ?k2 ?k3 ?z ?_; (case k1 => k_asm); (case k2 => k_asm); (case k3 => k_upd); (case z => walk_at "my size"); k_whole); intro _ _ _; (try dsimp only)))
  k_with "binaryOp Add ref ref" => (((with_reducible show wpAny _ _ (binaryOp _ (Value.ref _) (Value.ref _)) _ _ _); k_dflt (refine' add_made ?k1 ?k2 ?k3 ?k4 ?z ?_; (case k1 => k_asm); (case k2 => k_asm); (case k3 => k_mem); (case k4 => k_mem); (case z => walk_at "my size"); k_whole); intro _ _ _ _ _; (try dsimp only)))
  exact True.intro
/-- the inner def of a def of the text -/
noncomputable def innerOf (nm : Str) : Option (Arguments × List Stmt × Scope) :=
  match Challenge.pw_pg0127_01.main.body.find? (fun st => match st with | .FunctionDef n .. => n == nm | _ => false) with
  | some (.FunctionDef _ _ body ..) => body.findSome? fun st => match st with | .FunctionDef _ a b _ _ _ sc _ _ _ => some (a, b, sc) | _ => none
  | _ => none
noncomputable def CellIs (h : Heap) (c : Addr) (v : Value) : Prop := ∃ o, h.get? c = some o ∧ o.data = .cell (some v)
theorem CellIs.keeps {h h' : Heap} {c : Addr} {v : Value} (x : CellIs h c v) (k : Keeps h h') : CellIs h' c v := let ⟨o, e, d⟩ := x; ⟨o, k _ _ e, d⟩
theorem codeRec_keeps {h h' : Heap} {cd : Value} {q : Str} (x : h.CodeRec cd q) (k : Keeps h h') : h'.CodeRec cd q := by
  obtain ⟨c, o, vs, t, e1, e2, e3, e4⟩ := x
  exact ⟨c, o, vs, t, e1, k _ _ e2, e3, e4⟩
section
variable {M : Model} {A : Around} {E : Value → Shared → Prop} {s : Shared} {h₀ : Heap} {L a : Addr} {m : Str → Option Value} {cn : Str} {cs : Scope} {ccd : Value} {cl : List (Str × Addr)} {x : Str} {pos : Pos} {v : Value} {Q : Value → Shared → Prop} {c : Addr}
theorem name_free (F : Fr h₀ L s.heap m) (hc : cl.lookup x = some c) (hv : CellIs h₀ c v) (h : Q v s)
    (hk : cs.kind = .function := by rfl) (hx : (envX cn cs L a ccd cl).kindOf x = some .free := by rfl) (hb : (x == ("__debug__" : Str)) = false := by decide) (hn : (x == ("__classdict__" : Str)) = false := by decide) :
    wpAny M A (eval (.Name x pos) (envX cn cs L a ccd cl)) Q E s := wpAny_Name (wpAny_loadName_free hk hx hc (let ⟨o, e, d⟩ := hv; ⟨o, F.keep _ _ e, d⟩) h hn) hb
end
section
local macro_rules | `(tactic| walk_at "eval Name") => `(tactic| (kc_free; k_dflt (refine' name_free ?F ?c ?v ?_ ?a ?b; (case a => rfl); (case b => rfl); (case F => k_asm); (case c => assumption); (case v => assumption); k_whole)))
theorem word2 : True := by
  k_with "binaryOp RShift int int" => (((with_reducible show wpAny _ _ (binaryOp _ (Value.int (_ + _) _) (Value.int 1 _)) _ _ _); refine r_half ?_; (try dsimp only)))
  k_with "binaryOp Mult int int" => (((with_reducible show wpAny _ _ (binaryOp _ (Value.int (_ - _) _) (Value.int _ _)) _ _ _); (refine r_width (by assumption) (by assumption) ?_); (try dsimp only)))
  exact True.intro
theorem fnAt_keep {q : Addr} {h h' : Heap} (H : FnAt q h) (k : Keeps h h') : FnAt q h' := let ⟨a, b, c, d, e⟩ := H; ⟨a, b, c, d, k _ _ e⟩
theorem inst2 {w : World} {mean : ExcName → Option Value} {mg mb : Str → Option Value} {f : Addr} {D : Nat} {x y : Int} {Pre : Heap → Prop} {Post : Heap → Value → Heap → Prop} (H : ∀ tl tr, Tell w mean mg mb f D [.int x tl, .int y tr] Pre Post) {tl tr : Tok} :
    Tell w mean mg mb f D [.int x tl, .int y tr] Pre Post := H tl tr
theorem keepP {P : Heap → Prop} {h h' : Heap} (H : ∀ h', Keeps h h' → P h') (k : Keeps h h') : P h' := H h' k
noncomputable def D2IPre (qual : Str) (params : Arguments) (body : List Stmt) (scope : Scope) (cl : List (Str × Addr)) (doc pm ctv : Value) (f cD cN cI l c' : Addr) (vs : List Value) (n : Nat) (tn : Tok) (h : Heap) : Prop :=
  h.get? f = some (fnMade "inner" qual params body scope cl doc pm c' ctv) ∧ h.CodeRec (.ref c') qual ∧ CellIs h cD (.ref l) ∧ CellIs h cN (.int n tn) ∧ CellIs h cI (.ref f) ∧ h.IsList l vs.toArray
theorem D2IPre.keeps {qual : Str} {params : Arguments} {body : List Stmt} {scope : Scope} {cl : List (Str × Addr)} {doc pm ctv : Value} {f cD cN cI l c' : Addr} {vs : List Value} {n : Nat} {tn : Tok} {h : Heap} (x : D2IPre qual params body scope cl doc pm ctv f cD cN cI l c' vs n tn h) :
    ∀ h', Keeps h h' → D2IPre qual params body scope cl doc pm ctv f cD cN cI l c' vs n tn h' := fun h' k =>
  ⟨k _ _ x.1, codeRec_keeps x.2.1 k, x.2.2.1.keeps k, x.2.2.2.1.keeps k, x.2.2.2.2.1.keeps k, x.2.2.2.2.2.at fun o e => k _ _ e⟩
theorem word3 : True := by
  k_with "call ref" => ((k_dflt (refine' tell_use (inst2 ?hv) ?k1 ?k2 ?k3 ?k4 ?k5 ?kK ?kp ?kd ?ku ?_; (case hv => assumption); walk_at "my use"; (case kp => exact keepP (by assumption) (Fr.keep (by assumption)))); intro _ _ _ _ _ kp' po'; (obtain ⟨_, e'⟩ := po'; subst e'); clear kp'; (try dsimp only)))
  k_with "callWith ref" => ((k_dflt (refine' callWith_F ?k1 ?_; (case k1 => exact fnAt_keep (by assumption) (Fr.keep (by assumption))); k_whole)))
  k_with "FnAt" => (exact fnAt_keep (by assumption) (Fr.keep (by assumption)))
  k_with "subscriptTail Name Name ref int" => (refine Hold.out ?_)
  k_with "binaryOp LShift int int" => (refine Hold.out ?_)
  exact True.intro
theorem c_d2i_inner (w : World) (mean : ExcName → Option Value) (mg mb : Str → Option Value) {params : Arguments} {body : List Stmt} {scope : Scope} (hdef : innerOf "_digits2int" = some (params, body, scope))
    {qual : Str} {doc pm ctv : Value} {f cD cN cI l c' : Addr} {cl : List (Str × Addr)} (hcD : cl.lookup (PySem.Str.ofString "digits") = some cD) (hcN : cl.lookup (PySem.Str.ofString "n") = some cN) (hcI : cl.lookup (PySem.Str.ofString "inner") = some cI)
    {vs : List Value} {ns : List Int} {n : Nat} {tn : Tok} (hI : IntsAre vs ns) (hb : ∀ d ∈ ns, 0 ≤ d ∧ d < 2 ^ n) (hn : n ≤ 2 ^ 10) (hl : ns.length ≤ 63) :
    ∀ k lo hi : Nat, lo < hi → hi - lo ≤ k → hi ≤ ns.length → ∀ tl tr : Tok, Tell w mean mg mb f k [.int lo tl, .int hi tr]
      (D2IPre qual params body scope cl doc pm ctv f cD cN cI l c' vs n tn)
      (fun _ r _ => ∃ t, r = .int (dval n (span ns lo hi)) t) := by
  have e0 : innerOf "_digits2int" = some (_, _, _) := rfl
  rw [e0] at hdef
  cases hdef
  intro k
  induction k with
  | zero => intro lo hi h1 h2; lia
  | succ k ih =>
    intro lo hi h1 h2 h3 tl tr
    w_on; unfold Tell; k_fill
    intro dp un gd cn cs a' ccd cl' outer A₀ base h₀ L m s Q E B F X T hk hpre hd hu hret
    have hP := hpre.keeps
    obtain ⟨p1, p2, p3, p4, p5, p6⟩ := hpre
    have hFn : FnAt f s.heap := ⟨_, _, _, _, p1⟩
    refine wpAny_call ?_
    k_dflt (refine' enterX B F X News.nil T rfl rfl hk p1 rfl p2 ?k8 ?k9 ?kB ?_ ?c2 ?c3 ?c4 ?c5; (case k8 => ktr_room); (case k9 => exact BindsTo.of_eq rfl); (case c5 => decide); (case kB => exact locs rfl); (case c2 => exact rfl); (case c3 => exact rfl); (case c4 => exact rfl); k_whole)
    intro g L' h₁ hg F' N' B' X' T' hlt
    have hg' : g = s.heap := hg
    subst hg'
    (try dsimp only); (try k_fold)
    by_cases h4 : lo + 1 = hi
    · subst h4
      have h4' : (lo : Int) + 1 = ((lo + 1 : Nat) : Int) := by lia
      k_steps
      any_goals (exfalso; lia)
      show wpAny _ _ _ _ _ _
      refine item_at (p6.at fun o e => Fr.keep (by assumption) _ _ e) hI (by lia) (by lia) (by lia) fun t => ?_
      k_steps
      refine hret _ _ _ (Fr.keep (by assumption)) ⟨t, ?_⟩
      have hlt2 : lo < ns.length := by lia
      have e2 : dval n (span ns lo (lo + 1)) = ns.getD (lo : Int).toNat 0 := by
        rw [span_one hlt2, Int.toNat_natCast]
        simp [dval, List.getD, hlt2]
      rw [e2]
    · have h4' : ¬ ((lo : Int) + 1 = (hi : Int)) := by lia
      have hm1 : lo ≤ (lo + hi) / 2 := by lia
      have hm2 : lo < (lo + hi) / 2 := by lia
      have hm3 : (lo + hi) / 2 < hi := by lia
      have hn20 : n ≤ 2 ^ 20 := Nat.le_trans hn (by decide)
      have ih1 := ih ((lo + hi) / 2) hi hm3 (by lia) h3
      have ih2 := ih lo ((lo + hi) / 2) hm2 (by lia) (by lia)
      have ev := dval_span (n := n) (ns := ns) hm1 (Nat.le_of_lt hm3) h3
      have b1 := dval_bound n (span ns ((lo + hi) / 2) hi) fun d hd => hb d (span_mem hd)
      rw [span_length (Nat.le_of_lt hm3) h3] at b1
      have hz : (hi - (lo + hi) / 2) * n + ((lo + hi) / 2 - lo) * n ≤ 2 ^ 20 := by
        rw [← Nat.add_mul]
        refine Nat.le_trans (Nat.mul_le_mul (Nat.le_trans (by lia) hl) hn) (by decide)
      k_steps
      any_goals (exfalso; lia)
      show wpAny _ _ _ _ _ _
      refine r_shl b1.1 b1.2 hz ?_
      (try dsimp only)
      k_steps
      refine hret _ _ _ (Fr.keep (by assumption)) ?_
      rw [ev]
      exact ⟨_, rfl⟩
end
/-- what stands but the two tables stays as it is -/
noncomputable def KeepsT (h h' : Heap) : Prop := ∀ b o, b ≠ 93 → b ≠ 86 → h.get? b = some o → h'.get? b = some o
noncomputable def TabSt (h : Heap) (ps : Array Value) (line col : Nat) (q : Str) : Prop := ps = #[] ∨ ∃ c', c' ≠ 93 ∧ c' ≠ 86 ∧ ps = #[rawInt line, rawInt col, .ref c'] ∧ h.CodeRec (.ref c') q
theorem TabSt.keeps {h h' : Heap} {ps : Array Value} {line col : Nat} {q : Str} (x : TabSt h ps line col q) (k : KeepsT h h') : TabSt h' ps line col q := by
  rcases x with rfl | ⟨c', n1, n2, e, c, o, vs, t, e1, e2, e3, e4⟩
  · exact .inl rfl
  · cases e1
    exact .inr ⟨_, n1, n2, e, _, o, vs, t, rfl, k _ _ n1 n2 e2, e3, e4⟩
noncomputable def qual1 : Str := (PySem.Str.ofString "_digits2int" ++ PySem.Str.ofString ".<locals>.") ++ PySem.Str.ofString "inner"
noncomputable def qual2 : Str := (PySem.Str.ofString "_int2digits" ++ PySem.Str.ofString ".<locals>.") ++ PySem.Str.ofString "inner"
theorem tabs_news {h₀ h h' g : Heap} {L L' : Addr} {p q p' q' : Array Value} {all : List (Addr × Obj)} (N : News h₀ L h [(93, tabObj p), (86, tabObj q)]) (N' : News g L' h' all) (m1 : (93, tabObj p') ∈ all) (m2 : (86, tabObj q') ∈ all) :
    News h₀ L h' [(93, tabObj p'), (86, tabObj q')] := fun x hx => by
  rcases List.mem_cons.mp hx with rfl | hx
  · exact ⟨(N' _ m1).1, (N _ (.head _)).2⟩
  · rw [List.mem_singleton.mp hx]
    exact ⟨(N' _ m2).1, (N _ (.tail _ (.head _))).2⟩
structure TabsOk (h₀ : Heap) (L : Addr) (h : Heap) : Prop where
  c1 : CodeHd h₀ 97 93
  c2 : CodeHd h₀ 90 86
  st : ∃ p q, News h₀ L h [(93, tabObj p), (86, tabObj q)] ∧ TabSt h p 67 4 qual1 ∧ TabSt h q 52 4 qual2
/-- what a call tells that may fill the tables -/
noncomputable def TellT (w : World) (mean : ExcName → Option Value) (mg mb : Str → Option Value) (f : Addr) (D : Nat) (vs : List Value) (Pre : Heap → Prop) (Post : Heap → Value → Heap → Prop) : Prop :=
  ∀ (dp un : Nat) (gd : Option (List Code)) (cn : Str) (cs : Scope) (a : Addr) (ccd : Value) (cl : List (Str × Addr)) (outer : List Env) (A₀ : Around) (base h₀ : Heap) (L : Addr) (m : Str → Option Value) (s : Shared) (Q E : Value → Shared → Prop),
    Below A₀ base outer h₀ → Fr h₀ L s.heap m → (Mine.hd.heap_39 w.params).In h₀ → Top topProg loose0 mean mg mb h₀ → cs.kind = .function → TabsOk h₀ L s.heap → Pre s.heap → dp + D < recursionLimit → un + 8 * D < cLine →
    (∀ r h' tk', KeepsT s.heap h' → TabsOk h₀ L h' → Post s.heap r h' → Q r { s with heap := h', toks := tk' }) →
    wpAny (model Challenge.rw_pg0127_01.row.prog w) (ktrTop dp un gd cn cs L a ccd cl outer) (call (.ref f) vs) Q E s
end
section
theorem word4 : True := by
  k_with_none
  k_with "my enter" => ((refine wpAny_call ?_; refine' enterP ?k1 ?k2 ?k3 ?k5 ?kA ?kF ?kK ?k6 ?k7 ?k8 ?k9 ?kB ?_ ?c2 ?c3 ?c4 ?c5; (case kA => exact rfl); (case kF => exact rfl); (case kK => assumption); (case k1 => k_asm); (case k2 => k_asm); (case k3 => k_asm); (case k5 => k_asm); (case k6 => k_is); (case k7 => k_is); (case k8 => ktr_room); (case k9 => exact BindsTo.of_eq rfl); (case c5 => decide); (case kB => exact locs rfl); (case c2 => exact rfl); (case c3 => exact rfl); (case c4 => exact rfl); k_whole))
  k_with "my use" => (((case k1 => k_asm); (case k2 => k_asm); (case k3 => k_asm); (case k4 => k_asm); (case k5 => k_asm); (case kK => first | exact rfl | assumption); (case kd => ktr_room); (case ku => ktr_units)))
  k_with "pyIter ref" => (refine Hold.out ?_)
  k_with "UnrEnd" => (refine Hold.out ?_)
  k_with "callWith" => (((with_reducible show wpAny _ _ (callWith _ (Prod.fst _) (Prod.snd _) _ _) _ _ _); dsimp only; (with_reducible refine callWith_method1 ?_ ?he ?hp); (case he => rfl); (case hp => rfl)))
  k_with "call builtin:list.append" => (((show wpAny _ _ (call (Value.builtin "list.append") [Value.ref _, _]) _ _ _); k_dflt (refine' append_list ?k1 ?k2 ?k3 ?z ?_; (case k1 => k_asm); (case k2 => k_asm); (case k3 => k_upd); (case z => walk_at "my size"); k_whole); intro _ _ _; (try dsimp only)))
  k_with "my size" => (first | with_reducible assumption | exact Nat.le_of_ble_eq_true rfl | (rw [sizeLine_eq]; omega))
  k_with "my fits" => (first | with_reducible assumption | omega)
  k_with "newList" => ((k_dflt (refine' newl_made ?k1 ?k2 ?_ ?z; (case k1 => k_asm); (case k2 => k_asm); (case z => walk_at "my size"); k_whole); intro _ _ _ _ _; (try dsimp only)))
  k_with "call type:reversed" => ((k_here; (with_reducible show wpAny _ _ (call (Value.type _) [Value.ref _]) _ _ _); k_dflt (refine' krv_reversed ?F ?N ?l ?_; (case F => k_asm); (case N => k_asm); (case l => is_list)); intro _ _ _ _ _))
  k_with "call builtin:list.reverse" => (((show wpAny _ _ (call (Value.builtin "list.reverse") [Value.ref _]) _ _ _); k_dflt (refine' rev_made ?k1 ?k2 ?k3 ?z ?_; (case k1 => k_asm); (case k2 => k_asm); (case k3 => k_upd); (case z => walk_at "my size"); k_whole); intro _ _ _; (try dsimp only)))
  k_with "call builtin:len" => (((show wpAny _ _ (call (Value.builtin "len") [Value.ref _]) _ _ _); k_dflt (refine' len_made ?k1 ?k2 ?k3 ?k4 ?_; (case k1 => k_asm); (case k2 => k_mem); (case k3 => (first | exact rfl | assumption)); (case k4 => first | decide | walk_at "my fits")); (try dsimp only)))
  k_with "call builtin:list.pop" => (((show wpAny _ _ (call (Value.builtin "list.pop") [Value.ref _]) _ _ _); k_dflt (refine' pop_made ?k1 ?k2 ?k3 ?z ?_; (case k1 => k_asm); (case k2 => k_asm); (case k3 => k_upd); (case z => walk_at "my size"); k_whole); intro _ _ _; (try dsimp only)))
  k_with "binaryOp Add ref ref" => (((with_reducible show wpAny _ _ (binaryOp _ (Value.ref _) (Value.ref _)) _ _ _); k_dflt (refine' add_made ?k1 ?k2 ?k3 ?k4 ?z ?_; (case k1 => k_asm); (case k2 => k_asm); (case k3 => k_mem); (case k4 => k_mem); (case z => walk_at "my size"); k_whole); intro _ _ _ _ _; (try dsimp only)))
  exact True.intro
section
theorem word5 : True := by
  k_with "call ref" => ((k_dflt (show wpAny _ _ (call (Value.ref _) [Value.int _ _, Value.int _ _]) _ _ _); refine Hold.out ?_))
  k_with "call builtin:len" => ((k_dflt (show wpAny _ _ (call (Value.builtin "len") [Value.ref _]) _ _ _); k_dflt (refine' len_base ?k1 ?k2 ?k3 ?k4 ?_; (case k1 => k_asm); (case k2 => assumption); (case k3 => assumption); (case k4 => assumption); k_whole); (try dsimp only)))
  exact True.intro
theorem c_d2i (w : World) (mean : ExcName → Option Value) (mg mb : Str → Option Value) (l : Addr) (vs : List Value) (ns : List Int) (n : Nat) (tn : Tok) (hI : IntsAre vs ns) (hb : ∀ d ∈ ns, 0 ≤ d ∧ d < 2 ^ n) (hn : n ≤ 2 ^ 10) (hl : ns.length ≤ 63) :
    TellT w mean mg mb 98 70 [.ref l, .int n tn] (fun h => h.IsList l vs.toArray) (fun _ r _ => ∃ t, r = .int (dval n ns) t) := by
  w_on; unfold TellT; k_fill
  intro dp un gd cn cs a ccd cl outer A₀ base h₀ L m s Q E B F X T hk hT hpre hd hu hret
  obtain ⟨C1, C2, p, q, N, S1, S2⟩ := hT
  refine wpAny_call ?_
  k_dflt (refine' enterC ?k1 ?k2 ?k3 ?k4 ?k5 ?kA ?kF ?kK ?k6 ?k7 ?k8 ?k9 ?kB ?kD ?_ ?c2 ?c3 ?c4; (case kA => exact rfl); (case kF => exact rfl); (case kK => assumption); (case k1 => k_asm); (case k2 => k_asm); (case k3 => k_asm); (case k4 => exact N); (case k5 => k_asm); (case k6 => k_is); (case k7 => k_is); (case k8 => ktr_room); (case k9 => exact BindsTo.of_eq rfl); (case kB => exact rfl); (case kD => decide +kernel); (case c2 => exact rfl); (case c3 => exact rfl); (case c4 => exact rfl); k_whole)
  intro g L' h₁ tk cells hg F' N' Y' B' X' T' hlt
  have hgk : ∀ b o, b ≠ 93 → b ≠ 86 → s.heap.get? b = some o → g.get? b = some o := by
    intro b o b1 b2 e
    rw [hg]
    exact hideAll_get _ e (by simp [b1, b2])
  have C' : CodeHd g 97 93 := by
    obtain ⟨o, vs, file, tf, flags, tg, inF, text, tt, e1, r⟩ := C1
    exact ⟨o, vs, file, tf, flags, tg, inF, text, tt, hgk _ _ (by decide) (by decide) (F.keep _ _ e1), r⟩
  have hl' : g.IsList l vs.toArray := by
    obtain ⟨o, e, r⟩ := hpre
    refine ⟨o, hgk _ _ ?_ ?_ e, r⟩
    · intro q1; rw [q1, (N _ (.head _)).1] at e; cases e; cases r.1
    · intro q1; rw [q1, (N _ (.tail _ (.head _))).1] at e; cases e; cases r.1
  have hz62 : ns.length < 2 ^ 62 := Nat.lt_of_le_of_lt hl (by decide)
  have h93 : @LT.lt Nat _ 93 L' := hlt _ (.head _)
  have h86 : @LT.lt Nat _ 86 L' := hlt _ (.tail _ (.head _))
  k_cells Y'
  (try simp only [List.cons_append, List.nil_append] at N')
  rcases S1 with rfl | ⟨c0, hn1, hn2, rfl, hc0⟩
  · (try dsimp only); (try k_fold)
    k_steps
    · show wpAny _ _ (call (Value.ref _) [Value.int ((0 : Nat) : Int) _, Value.int ((ns.length : Nat) : Int) _]) _ _ _
      rename_i N2 _ hpos
      refine' tell_use (c_d2i_inner w mean mg mb ?hd ?h1 ?h2 ?h3 hI hb hn hl ns.length 0 ns.length hpos (by lia) (Nat.le_refl _) _ _) B' (by assumption) X' N2 T' rfl ⟨N2.get (.head _), ?q2, ?q3, ?q4, ?q5, ?q6⟩ ?d ?u ?ret
      case hd => exact rfl
      case h1 => exact rfl
      case h2 => exact rfl
      case h3 => exact rfl
      case q2 => exact codeRec_news N2 (by k_mem) (by assumption) (by assumption)
      case q3 => exact ⟨_, N2.get (by k_mem), by assumption⟩
      case q4 => exact ⟨_, N2.get (by k_mem), by assumption⟩
      case q5 => exact ⟨_, N2.get (by k_mem), by assumption⟩
      case q6 => exact hl'.at fun o e => Fr.keep (by assumption) _ _ e
      case d => ktr_room
      case u => ktr_units
      case ret =>
        rintro r h' tk' F3 N3 k3 ⟨t, rfl⟩
        (try dsimp only)
        k_steps
        have kT : KeepsT s.heap h' := fun b o b1 b2 e => F3.keep b o (hgk b o b1 b2 e)
        rw [span_all]
        exact hret _ _ _ kT ⟨C1, C2, _, _, tabs_news N N3 (by k_mem) (by k_mem), .inr ⟨_, neN (by lia), neN (by lia), rfl, codeRec_news N3 (by k_mem) (by assumption) (by assumption)⟩, S2.keeps kT⟩ ⟨t, rfl⟩
    · have h0 : ns = [] := List.length_eq_zero_iff.mp (by lia)
      subst h0
      rename_i F9 N9 _ _
      have kT : KeepsT s.heap _ := fun b o b1 b2 e => F9.keep b o (hgk b o b1 b2 e)
      exact hret _ _ _ kT ⟨C1, C2, _, _, tabs_news N N9 (by k_mem) (by k_mem), .inr ⟨_, neN (by lia), neN (by lia), rfl, codeRec_news N9 (by k_mem) (by assumption) (by assumption)⟩, S2.keeps kT⟩ ⟨_, rfl⟩
  · have hcg : g.CodeRec (.ref c0) qual1 := by
      obtain ⟨c, o, vs, t, e1, e2, e3, e4⟩ := hc0
      cases e1
      exact ⟨_, o, vs, t, rfl, hgk _ _ hn1 hn2 e2, e3, e4⟩
    (try dsimp only); (try k_fold)
    k_steps
    · show wpAny _ _ (call (Value.ref _) [Value.int ((0 : Nat) : Int) _, Value.int ((ns.length : Nat) : Int) _]) _ _ _
      rename_i N2 _ hpos
      refine' tell_use (c_d2i_inner w mean mg mb ?hd ?h1 ?h2 ?h3 hI hb hn hl ns.length 0 ns.length hpos (by lia) (Nat.le_refl _) _ _) B' (by assumption) X' N2 T' rfl ⟨N2.get (.head _), ?q2, ?q3, ?q4, ?q5, ?q6⟩ ?d ?u ?ret
      case hd => exact rfl
      case h1 => exact rfl
      case h2 => exact rfl
      case h3 => exact rfl
      case q2 => exact codeRec_keeps hcg (Fr.keep (by assumption))
      case q3 => exact ⟨_, N2.get (by k_mem), by assumption⟩
      case q4 => exact ⟨_, N2.get (by k_mem), by assumption⟩
      case q5 => exact ⟨_, N2.get (by k_mem), by assumption⟩
      case q6 => exact hl'.at fun o e => Fr.keep (by assumption) _ _ e
      case d => ktr_room
      case u => ktr_units
      case ret =>
        rintro r h' tk' F3 N3 k3 ⟨t, rfl⟩
        (try dsimp only)
        k_steps
        have kT : KeepsT s.heap h' := fun b o b1 b2 e => F3.keep b o (hgk b o b1 b2 e)
        rw [span_all]
        exact hret _ _ _ kT ⟨C1, C2, _, _, tabs_news N N3 (by k_mem) (by k_mem), .inr ⟨_, hn1, hn2, rfl, codeRec_keeps hcg F3.keep⟩, S2.keeps kT⟩ ⟨t, rfl⟩
    · have h0 : ns = [] := List.length_eq_zero_iff.mp (by lia)
      subst h0
      rename_i F9 N9 _ _
      have kT : KeepsT s.heap _ := fun b o b1 b2 e => F9.keep b o (hgk b o b1 b2 e)
      exact hret _ _ _ kT ⟨C1, C2, _, _, tabs_news N N9 (by k_mem) (by k_mem), .inr ⟨_, hn1, hn2, rfl, codeRec_keeps hcg F9.keep⟩, S2.keeps kT⟩ ⟨_, rfl⟩
end
end
section
theorem word6 : True := by
  k_with_none
  k_with "my enter" => ((refine wpAny_call ?_; refine' enterP ?k1 ?k2 ?k3 ?k5 ?kA ?kF ?kK ?k6 ?k7 ?k8 ?k9 ?kB ?_ ?c2 ?c3 ?c4 ?c5; (case kA => exact rfl); (case kF => exact rfl); (case kK => assumption); (case k1 => k_asm); (case k2 => k_asm); (case k3 => k_asm); (case k5 => k_asm); (case k6 => k_is); (case k7 => k_is); (case k8 => ktr_room); (case k9 => exact BindsTo.of_eq rfl); (case c5 => decide); (case kB => exact locs rfl); (case c2 => exact rfl); (case c3 => exact rfl); (case c4 => exact rfl); k_whole))
  k_with "my use" => (((case k1 => k_asm); (case k2 => k_asm); (case k3 => k_asm); (case k4 => k_asm); (case k5 => k_asm); (case kK => first | exact rfl | assumption); (case kd => ktr_room); (case ku => ktr_units)))
  k_with "pyIter ref" => (refine Hold.out ?_)
  k_with "UnrEnd" => (refine Hold.out ?_)
  k_with "callWith" => (((with_reducible show wpAny _ _ (callWith _ (Prod.fst _) (Prod.snd _) _ _) _ _ _); dsimp only; (with_reducible refine callWith_method1 ?_ ?he ?hp); (case he => rfl); (case hp => rfl)))
  k_with "call builtin:list.append" => (((show wpAny _ _ (call (Value.builtin "list.append") [Value.ref _, _]) _ _ _); k_dflt (refine' append_list ?k1 ?k2 ?k3 ?z ?_; (case k1 => k_asm); (case k2 => k_asm); (case k3 => k_upd); (case z => walk_at "my size"); k_whole); intro _ _ _; (try dsimp only)))
  k_with "my size" => (first | with_reducible assumption | exact Nat.le_of_ble_eq_true rfl | (rw [sizeLine_eq]; omega))
  k_with "my fits" => (first | with_reducible assumption | omega)
  k_with "newList" => ((k_dflt (refine' newl_made ?k1 ?k2 ?_ ?z; (case k1 => k_asm); (case k2 => k_asm); (case z => walk_at "my size"); k_whole); intro _ _ _ _ _; (try dsimp only)))
  k_with "call type:reversed" => ((k_here; (with_reducible show wpAny _ _ (call (Value.type _) [Value.ref _]) _ _ _); k_dflt (refine' krv_reversed ?F ?N ?l ?_; (case F => k_asm); (case N => k_asm); (case l => is_list)); intro _ _ _ _ _))
  k_with "call builtin:list.reverse" => (((show wpAny _ _ (call (Value.builtin "list.reverse") [Value.ref _]) _ _ _); k_dflt (refine' rev_made ?k1 ?k2 ?k3 ?z ?_; (case k1 => k_asm); (case k2 => k_asm); (case k3 => k_upd); (case z => walk_at "my size"); k_whole); intro _ _ _; (try dsimp only)))
  k_with "call builtin:len" => (((show wpAny _ _ (call (Value.builtin "len") [Value.ref _]) _ _ _); k_dflt (refine' len_made ?k1 ?k2 ?k3 ?k4 ?_; (case k1 => k_asm); (case k2 => k_mem); (case k3 => (first | exact rfl | assumption)); (case k4 => first | decide | walk_at "my fits")); (try dsimp only)))
  k_with "call builtin:list.pop" => (((show wpAny _ _ (call (Value.builtin "list.pop") [Value.ref _]) _ _ _); k_dflt (refine' pop_made ?k1 ?k2 ?k3 ?z ?_; (case k1 => k_asm); (case k2 => k_asm); (case k3 => k_upd); (case z => walk_at "my size"); k_whole); intro _ _ _; (try dsimp only)))
  k_with "binaryOp Add ref ref" => (((with_reducible show wpAny _ _ (binaryOp _ (Value.ref _) (Value.ref _)) _ _ _); k_dflt (refine' add_made ?k1 ?k2 ?k3 ?k4 ?z ?_; (case k1 => k_asm); (case k2 => k_asm); (case k3 => k_mem); (case k4 => k_mem); (case z => walk_at "my size"); k_whole); intro _ _ _ _ _; (try dsimp only)))
  exact True.intro
/-- a stretch of a list laid anew -/
noncomputable def put (ns : List Int) (lo : Nat) (xs : List Int) : List Int := ns.take lo ++ xs ++ ns.drop (lo + xs.length)
theorem put_length {ns : List Int} {lo : Nat} {xs : List Int} (h : lo + xs.length ≤ ns.length) : (put ns lo xs).length = ns.length := by
  unfold put; simp; lia
theorem put_one {ns : List Int} {lo : Nat} {x : Int} (h : lo < ns.length) : ns.set lo x = put ns lo [x] := by
  unfold put
  rw [List.set_eq_take_append_cons_drop, if_pos h]
  simp
theorem put_put {ns : List Int} {lo : Nat} {xs ys : List Int} (h : lo + xs.length + ys.length ≤ ns.length) : put (put ns lo xs) (lo + xs.length) ys = put ns lo (xs ++ ys) := by
  unfold put
  have e1 : (ns.take lo ++ xs).length = lo + xs.length := by simp; lia
  have e2 : (ns.take lo ++ xs ++ ns.drop (lo + xs.length)).take (lo + xs.length) = ns.take lo ++ xs := by
    rw [← e1, List.take_left]
  have e3 : (ns.take lo ++ xs ++ ns.drop (lo + xs.length)).drop (lo + xs.length + ys.length) = ns.drop (lo + (xs ++ ys).length) := by
    rw [List.drop_append, e1, List.drop_drop]
    have : (ns.take lo ++ xs).drop (lo + xs.length + ys.length) = [] := List.drop_eq_nil_of_le (by rw [e1]; lia)
    rw [this, List.nil_append]
    congr 1
    simp
    lia
  rw [e2, e3, List.append_assoc (ns.take lo) xs ys]
/-- what a call tells that turns one object -/
noncomputable def TellM (w : World) (mean : ExcName → Option Value) (mg mb : Str → Option Value) (f : Addr) (D : Nat) (vs : List Value) (ad : Addr) (o : Obj) (Pre : Heap → Prop) (Post : Obj → Prop) : Prop :=
  ∀ (dp un : Nat) (gd : Option (List Code)) (cn : Str) (cs : Scope) (a : Addr) (ccd : Value) (cl : List (Str × Addr)) (outer : List Env) (A₀ : Around) (base h₀ : Heap) (L : Addr) (m : Str → Option Value) (s : Shared) (Q E : Value → Shared → Prop),
    Below A₀ base outer h₀ → Fr h₀ L s.heap m → (Mine.hd.heap_39 w.params).In h₀ → Top topProg loose0 mean mg mb h₀ → cs.kind = .function → News h₀ L s.heap [(ad, o)] → Pre s.heap → dp + D < recursionLimit → un + 8 * D < cLine →
    (∀ o' h' tk', (∀ b x, b ≠ ad → s.heap.get? b = some x → h'.get? b = some x) → h'.get? ad = some o' → Post o' → Q .none { s with heap := h', toks := tk' }) →
    wpAny (model Challenge.rw_pg0127_01.row.prog w) (ktrTop dp un gd cn cs L a ccd cl outer) (call (.ref f) vs) Q E s
section
variable {w : World} {mean : ExcName → Option Value} {mg mb : Str → Option Value} {f : Addr} {D : Nat} {vs : List Value} {ad : Addr} {o : Obj} {Pre : Heap → Prop} {Post : Obj → Prop}
  {dp un : Nat} {gd : Option (List Code)} {cn : Str} {cs : Scope} {a : Addr} {ccd : Value} {cl : List (Str × Addr)} {outer : List Env} {A₀ : Around} {base h₀ : Heap} {L : Addr} {m : Str → Option Value} {s : Shared} {rest : List (Addr × Obj)} {Q E : Value → Shared → Prop}
theorem tellM_use (C : TellM w mean mg mb f D vs ad o Pre Post) (B : Below A₀ base outer h₀) (F : Fr h₀ L s.heap m) (X : (Mine.hd.heap_39 w.params).In h₀) (N : News h₀ L s.heap ((ad, o) :: rest)) (hr : ∀ p ∈ rest, p.1 ≠ ad) (T : Top topProg loose0 mean mg mb h₀) (hk : cs.kind = .function) (hp : Pre s.heap)
    (hd : dp + D < recursionLimit) (hu : un + 8 * D < cLine)
    (ret : ∀ o' h' tk', Fr h₀ L h' m → News h₀ L h' ((ad, o') :: rest) → (∀ b x, b ≠ ad → s.heap.get? b = some x → h'.get? b = some x) → Post o' → Q .none { s with heap := h', toks := tk' }) :
    wpAny (model Challenge.rw_pg0127_01.row.prog w) (ktrTop dp un gd cn cs L a ccd cl outer) (call (.ref f) vs) Q E s := by
  unfold TellM at C
  have z := N _ (.head _)
  refine C _ _ _ _ _ _ _ _ _ _ _ _ _ _ _ _ _ B F X T hk (fun p hp => N p (by rw [List.mem_singleton.mp hp]; exact .head _)) hp hd hu fun o' h' tk' k e po => ret o' h' tk' ?_ ?_ k po
  · obtain ⟨oL, es, ep, hL, r⟩ := F.ns
    refine ⟨⟨oL, es, ep, k _ _ (Ne.symm z.2.1) hL, r⟩, fun b x q => k _ _ (fun q2 => ?_) (F.keep b x q), F.above⟩
    rw [q2, z.2.2] at q; cases q
  · intro p hp
    rcases List.mem_cons.mp hp with rfl | hp
    · exact ⟨e, z.2⟩
    · exact ⟨k _ _ (hr p hp) (N p (.tail _ hp)).1, (N p (.tail _ hp)).2⟩
end
noncomputable def I2DPre (qual : Str) (params : Arguments) (body : List Stmt) (scope : Scope) (cl : List (Str × Addr)) (doc pm ctv : Value) (f cA cN cI ad c' : Addr) (n : Nat) (tn : Tok) (h : Heap) : Prop :=
  h.get? f = some (fnMade "inner" qual params body scope cl doc pm c' ctv) ∧ h.CodeRec (.ref c') qual ∧ CellIs h cA (.ref ad) ∧ CellIs h cN (.int n tn) ∧ CellIs h cI (.ref f)
theorem I2DPre.off {qual : Str} {params : Arguments} {body : List Stmt} {scope : Scope} {cl : List (Str × Addr)} {doc pm ctv : Value} {f cA cN cI ad c' : Addr} {n : Nat} {tn : Tok} {h h' : Heap} {vs : Array Value} {kk : Nat} (x : I2DPre qual params body scope cl doc pm ctv f cA cN cI ad c' n tn h)
    (ha : h.get? ad = some (W.listOf vs kk)) (k : ∀ b x, b ≠ ad → h.get? b = some x → h'.get? b = some x) : I2DPre qual params body scope cl doc pm ctv f cA cN cI ad c' n tn h' := by
  obtain ⟨p1, ⟨c, o, vs', t, e1, e2, e3, e4⟩, ⟨o3, q3, d3⟩, ⟨o4, q4, d4⟩, ⟨o5, q5, d5⟩⟩ := x
  refine ⟨k _ _ (fun q => ?_) p1, ⟨c, o, vs', t, e1, k _ _ (fun q => ?_) e2, e3, e4⟩, ⟨o3, k _ _ (fun q => ?_) q3, d3⟩, ⟨o4, k _ _ (fun q => ?_) q4, d4⟩, ⟨o5, k _ _ (fun q => ?_) q5, d5⟩⟩
  · rw [q, ha] at p1; have h9 := congrArg Obj.data (Option.some.inj p1); cases h9
  · rw [q, ha] at e2; cases e2; cases e3
  · rw [q, ha] at q3; cases q3; cases d3
  · rw [q, ha] at q4; cases q4; cases d4
  · rw [q, ha] at q5; cases q5; cases d5
section
local macro_rules | `(tactic| walk_at "eval Name") => `(tactic| (kc_free; k_dflt (refine' name_free ?F ?c ?v ?_ ?a ?b; (case a => rfl); (case b => rfl); (case F => k_asm); (case c => assumption); (case v => assumption); k_whole)))
theorem word7 : True := by
  k_with "binaryOp RShift int int" => (((with_reducible show wpAny _ _ (binaryOp _ (Value.int _ _) (Value.int (Nat.cast _) _)) _ _ _); refine r_shr ?_; (try dsimp only)))
  k_with "binaryOp RShift int int" => (((with_reducible show wpAny _ _ (binaryOp _ (Value.int (_ + _) _) (Value.int 1 _)) _ _ _); refine r_half ?_; (try dsimp only)))
  k_with "binaryOp Mult int int" => (((with_reducible show wpAny _ _ (binaryOp _ (Value.int (_ - _) _) (Value.int _ _)) _ _ _); (refine r_width (by assumption) (by assumption) ?_); (try dsimp only)))
  k_with "binaryOp LShift int int" => (((refine r_shl (by assumption) (by assumption) (by assumption) ?_); (try dsimp only)))
  k_with "binaryOp BitXor int int" => (((refine r_xor (by assumption) ?_); (try dsimp only)))
  k_with "callWith ref" => ((k_dflt (refine' callWith_F ?k1 ?_; (case k1 => exact fnAt_keep (by assumption) (Fr.keep (by assumption))); k_whole)))
  k_with "FnAt" => (exact fnAt_keep (by assumption) (Fr.keep (by assumption)))
  k_with "call ref" => ((k_dflt (show wpAny _ _ (call (Value.ref _) [Value.int _ _, Value.int _ _, Value.int _ _]) _ _ _); refine Hold.out ?_))
  k_with "setItem ref int" => (refine Hold.out ?_)
  exact True.intro
theorem c_i2d_inner (w : World) (mean : ExcName → Option Value) (mg mb : Str → Option Value) {params : Arguments} {body : List Stmt} {scope : Scope} (hdef : innerOf "_int2digits" = some (params, body, scope))
    {qual : Str} {doc pm ctv : Value} {f cA cN cI ad c' : Addr} {cl : List (Str × Addr)} (hcA : cl.lookup (PySem.Str.ofString "a_digits") = some cA) (hcN : cl.lookup (PySem.Str.ofString "n") = some cN) (hcI : cl.lookup (PySem.Str.ofString "inner") = some cI)
    {n kk : Nat} {tn : Tok} (hn : n ≤ 2 ^ 10) :
    ∀ k lo hi : Nat, lo < hi → hi - lo ≤ k → ∀ (x : Int), 0 ≤ x → x < 2 ^ ((hi - lo) * n) → ∀ (vs : List Value) (ns : List Int), IntsAre vs ns → hi ≤ ns.length → ns.length ≤ 63 → ∀ tx tl tr : Tok,
      TellM w mean mg mb f k [.int x tx, .int lo tl, .int hi tr] ad (W.listOf vs.toArray kk) (I2DPre qual params body scope cl doc pm ctv f cA cN cI ad c' n tn)
      (fun o' => ∃ vs', o' = W.listOf vs'.toArray kk ∧ IntsAre vs' (put ns lo (digs n (hi - lo) x))) := by
  have e0 : innerOf "_int2digits" = some (_, _, _) := rfl
  rw [e0] at hdef
  cases hdef
  intro k
  induction k with
  | zero => intro lo hi h1 h2; lia
  | succ k ih =>
    intro lo hi h1 h2 x x0 x1 vs ns hI h3 hl tx tl tr
    w_on; unfold TellM; k_fill
    intro dp un gd cn cs a' ccd cl' outer A₀ base h₀ L m s Q E B F X T hk N hpre hd hu hret
    have hpre0 := hpre
    obtain ⟨p1, p2, p3, p4, p5⟩ := hpre
    refine wpAny_call ?_
    k_dflt (refine' enterX B F X N T rfl rfl hk p1 rfl p2 ?k8 ?k9 ?kB ?_ ?c2 ?c3 ?c4 ?c5; (case k8 => ktr_room); (case k9 => exact BindsTo.of_eq rfl); (case c5 => decide); (case kB => exact locs rfl); (case c2 => exact rfl); (case c3 => exact rfl); (case c4 => exact rfl); k_whole)
    intro g L' h₁ hg F' N' B' X' T' hlt
    have hgk : ∀ b o, b ≠ ad → s.heap.get? b = some o → g.get? b = some o := by
      intro b o b1 e
      rw [hg]
      exact hideAll_get _ e (by simp [b1])
    have hpg := hpre0.off (N _ (.head _)).1 hgk
    obtain ⟨p1, p2, p3, p4, p5⟩ := hpg
    have hFn : FnAt f g := ⟨_, _, _, _, p1⟩
    (try dsimp only); (try k_fold)
    by_cases h4 : lo + 1 = hi
    · subst h4
      k_steps
      any_goals (exfalso; lia)
      show wpAny _ _ _ _ _ _
      refine ksa_set (by assumption) (by assumption) (.head (List.forall_mem_nil _)) hI (by lia) (by lia) (by lia) fun h' F2 N2 i2 _ _ => ?_
      (try dsimp only)
      k_steps
      rename_i hlo
      have hlt3 : lo < ns.length := by lia
      rw [Int.toNat_natCast] at i2 N2
      refine hret _ _ _ (fun b o b1 e => F2.keep b o (hgk b o b1 e)) (N2.get (.head _)) ⟨_, rfl, ?_⟩
      have e5 : digs n (lo + 1 - lo) x = [x] := by
        have : lo + 1 - lo = 1 := by lia
        rw [this] at x1 ⊢
        rw [Nat.one_mul] at x1
        exact digs_one x0 x1
      rw [e5, ← put_one hlt3]; exact i2
    · have h4' : ¬ ((lo : Int) + 1 = (hi : Int)) := by lia
      have hm1 : lo ≤ (lo + hi) / 2 := by lia
      have hm2 : lo < (lo + hi) / 2 := by lia
      have hm3 : (lo + hi) / 2 < hi := by lia
      have hn20 : n ≤ 2 ^ 20 := Nat.le_trans hn (by decide)
      have u0 : 0 ≤ x / 2 ^ (((lo + hi) / 2 - lo) * n) := Int.ediv_nonneg x0 (Int.le_of_lt (Int.pow_pos (by decide)))
      have u1 : x / 2 ^ (((lo + hi) / 2 - lo) * n) < 2 ^ ((hi - (lo + hi) / 2) * n) := by
        refine Int.ediv_lt_of_lt_mul (Int.pow_pos (by decide)) ?_
        rw [← Int.pow_add, ← Nat.add_mul]
        have : hi - (lo + hi) / 2 + ((lo + hi) / 2 - lo) = hi - lo := by lia
        rw [this]; exact x1
      have hz : (hi - (lo + hi) / 2) * n + ((lo + hi) / 2 - lo) * n ≤ 2 ^ 20 := by
        rw [← Nat.add_mul]
        refine Nat.le_trans (Nat.mul_le_mul (Nat.le_trans (by lia) hl) hn) (by decide)
      have ih1 := ih lo ((lo + hi) / 2) hm2 (by lia) (x % 2 ^ (((lo + hi) / 2 - lo) * n)) (Int.emod_nonneg _ (Int.ne_of_gt (Int.pow_pos (by decide)))) (Int.emod_lt_of_pos _ (Int.pow_pos (by decide))) vs ns hI (by lia) hl
      k_steps
      any_goals (exfalso; lia)
      show wpAny _ _ (call (Value.ref _) [Value.int _ _, Value.int _ _, Value.int _ _]) _ _ _
      refine tellM_use (ih1 _ _ _) B' (by assumption) X' (by assumption) (List.forall_mem_nil _) T' rfl (hpre0.off (N _ (.head _)).1 fun b o b1 e => Fr.keep (by assumption) _ _ (hgk b o b1 e)) (by ktr_room) (by ktr_units) ?_
      rintro o2 h2 tk2 F2 N2 k2 ⟨vs2, rfl, i2⟩
      (try dsimp only)
      have hlen1 : (digs n ((lo + hi) / 2 - lo) (x % 2 ^ (((lo + hi) / 2 - lo) * n))).length = (lo + hi) / 2 - lo := digs_length _ _ _
      have hpl := put_length (ns := ns) (lo := lo) (xs := digs n ((lo + hi) / 2 - lo) (x % 2 ^ (((lo + hi) / 2 - lo) * n))) (by rw [hlen1]; lia)
      have ih2 := ih ((lo + hi) / 2) hi hm3 (by lia) (x / 2 ^ (((lo + hi) / 2 - lo) * n)) u0 u1 vs2 _ i2 (by rw [hpl]; exact h3) (by rw [hpl]; exact hl)
      k_steps
      show wpAny _ _ (call (Value.ref _) [Value.int _ _, Value.int _ _, Value.int _ _]) _ _ _
      refine tellM_use (ih2 _ _ _) B' (by assumption) X' (by assumption) (List.forall_mem_nil _) T' rfl (hpre0.off (N _ (.head _)).1 fun b o b1 e => Fr.keep (by assumption) _ _ (hgk b o b1 e)) (by ktr_room) (by ktr_units) ?_
      rintro o3 h3' tk3 F3 N3 k3 ⟨vs3, rfl, i3⟩
      (try dsimp only)
      k_steps
      refine hret _ _ _ (fun b o b1 e => F3.keep b o (hgk b o b1 e)) (N3.get (.head _)) ⟨_, rfl, ?_⟩
      have e6 : hi - lo = ((lo + hi) / 2 - lo) + (hi - (lo + hi) / 2) := by lia
      have e7 : lo + ((lo + hi) / 2 - lo) = (lo + hi) / 2 := by lia
      rw [e6, digs_add, ← put_put (by rw [hlen1, digs_length]; lia), hlen1, e7]
      exact i3
end
end
section
theorem word8 : True := by
  k_with_none
  k_with "my enter" => ((refine wpAny_call ?_; refine' enterP ?k1 ?k2 ?k3 ?k5 ?kA ?kF ?kK ?k6 ?k7 ?k8 ?k9 ?kB ?_ ?c2 ?c3 ?c4 ?c5; (case kA => exact rfl); (case kF => exact rfl); (case kK => assumption); (case k1 => k_asm); (case k2 => k_asm); (case k3 => k_asm); (case k5 => k_asm); (case k6 => k_is); (case k7 => k_is); (case k8 => ktr_room); (case k9 => exact BindsTo.of_eq rfl); (case c5 => decide); (case kB => exact locs rfl); (case c2 => exact rfl); (case c3 => exact rfl); (case c4 => exact rfl); k_whole))
  k_with "my use" => (((case k1 => k_asm); (case k2 => k_asm); (case k3 => k_asm); (case k4 => k_asm); (case k5 => k_asm); (case kK => first | exact rfl | assumption); (case kd => ktr_room); (case ku => ktr_units)))
  k_with "pyIter ref" => (refine Hold.out ?_)
  k_with "UnrEnd" => (refine Hold.out ?_)
  k_with "callWith" => (((with_reducible show wpAny _ _ (callWith _ (Prod.fst _) (Prod.snd _) _ _) _ _ _); dsimp only; (with_reducible refine callWith_method1 ?_ ?he ?hp); (case he => rfl); (case hp => rfl)))
  k_with "call builtin:list.append" => (((show wpAny _ _ (call (Value.builtin "list.append") [Value.ref _, _]) _ _ _); k_dflt (refine' append_list ?k1 ?k2 ?k3 ?z ?_; (case k1 => k_asm); (case k2 => k_asm); (case k3 => k_upd); (case z => walk_at "my size"); k_whole); intro _ _ _; (try dsimp only)))
  k_with "my size" => (first | with_reducible assumption | exact Nat.le_of_ble_eq_true rfl | (rw [sizeLine_eq]; omega))
  k_with "my fits" => (first | with_reducible assumption | omega)
  k_with "newList" => ((k_dflt (refine' newl_made ?k1 ?k2 ?_ ?z; (case k1 => k_asm); (case k2 => k_asm); (case z => walk_at "my size"); k_whole); intro _ _ _ _ _; (try dsimp only)))
  k_with "call type:reversed" => ((k_here; (with_reducible show wpAny _ _ (call (Value.type _) [Value.ref _]) _ _ _); k_dflt (refine' krv_reversed ?F ?N ?l ?_; (case F => k_asm); (case N => k_asm); (case l => is_list)); intro _ _ _ _ _))
  k_with "call builtin:list.reverse" => (((show wpAny _ _ (call (Value.builtin "list.reverse") [Value.ref _]) _ _ _); k_dflt (refine' rev_made ?k1 ?k2 ?k3 ?z ?_; (case k1 => k_asm); (case k2 => k_asm); (case k3 => k_upd); (case z => walk_at "my size"); k_whole); intro _ _ _; (try dsimp only)))
  k_with "call builtin:len" => (((show wpAny _ _ (call (Value.builtin "len") [Value.ref _]) _ _ _); k_dflt (refine' len_made ?k1 ?k2 ?k3 ?k4 ?_; (case k1 => k_asm); (case k2 => k_mem); (case k3 => (first | exact rfl | assumption)); (case k4 => first | decide | walk_at "my fits")); (try dsimp only)))
  k_with "call builtin:list.pop" => (((show wpAny _ _ (call (Value.builtin "list.pop") [Value.ref _]) _ _ _); k_dflt (refine' pop_made ?k1 ?k2 ?k3 ?z ?_; (case k1 => k_asm); (case k2 => k_asm); (case k3 => k_upd); (case z => walk_at "my size"); k_whole); intro _ _ _; (try dsimp only)))
  k_with "binaryOp Add ref ref" => (((with_reducible show wpAny _ _ (binaryOp _ (Value.ref _) (Value.ref _)) _ _ _); k_dflt (refine' add_made ?k1 ?k2 ?k3 ?k4 ?z ?_; (case k1 => k_asm); (case k2 => k_asm); (case k3 => k_mem); (case k4 => k_mem); (case z => walk_at "my size"); k_whole); intro _ _ _ _ _; (try dsimp only)))
  exact True.intro
theorem news_third {h₀ h : Heap} {L : Addr} {a b c : Addr × Obj} {r : List (Addr × Obj)} (N : News h₀ L h (a :: b :: c :: r)) : News h₀ L h (c :: a :: b :: r) := fun p hp => N p (by
  rcases List.mem_cons.mp hp with rfl | hp
  · exact .tail _ (.tail _ (.head _))
  rcases List.mem_cons.mp hp with rfl | hp
  · exact .head _
  rcases List.mem_cons.mp hp with rfl | hp
  · exact .tail _ (.head _)
  · exact .tail _ (.tail _ (.tail _ hp)))
theorem news_second {h₀ h : Heap} {L : Addr} {a b : Addr × Obj} {r : List (Addr × Obj)} (N : News h₀ L h (a :: b :: r)) : News h₀ L h (b :: a :: r) := fun p hp => N p (by
  rcases List.mem_cons.mp hp with rfl | hp
  · exact .tail _ (.head _)
  rcases List.mem_cons.mp hp with rfl | hp
  · exact .head _
  · exact .tail _ (.tail _ hp))
theorem ints_rep (t : Tok) : ∀ k, IntsAre (List.replicate k (Value.int 0 t)) (List.replicate k 0)
  | 0 => .nil
  | k + 1 => .cons 0 t (ints_rep t k)
theorem put_all {xs : List Int} {k : Nat} (h : xs.length = k) : put (List.replicate k 0) 0 xs = xs := by
  unfold put; simp [h]
section
theorem word9 : True := by
  k_with "call ref" => ((k_dflt (show wpAny _ _ (call (Value.ref _) [Value.int _ _, Value.int _ _, Value.int _ _]) _ _ _); refine Hold.out ?_))
  k_with "binaryOp FloorDiv int int" => (((refine r_len (by assumption) (by assumption) ?_); (try dsimp only)))
  exact True.intro
local macro_rules | `(tactic| walk_at "binaryOp Mult") => `(tactic| ((with_reducible show wpAny _ _ (binaryOp _ (Value.ref _) (Value.int _ _)) _ _ _); k_dflt (refine' mul_made ?k1 ?k2 ?k3 ?z ?_; (case k1 => k_asm); (case k2 => k_asm); (case k3 => k_mem); (case z => assumption); k_whole); intro a' h' F' N' l'; (try k_lt l'); (try dsimp only)))
theorem word10 : True := by
  k_with "call builtin:len" => ((k_dflt (show wpAny _ _ (call (Value.builtin "len") [Value.ref _]) _ _ _); k_dflt (refine' len_made ?k1 ?k2 ?k3 ?k4 ?_; (case k1 => k_asm); (case k2 => k_mem); (case k3 => exact List.length_replicate); (case k4 => assumption)); (try dsimp only)))
  exact True.intro
theorem c_i2d (w : World) (mean : ExcName → Option Value) (mg mb : Str → Option Value) (x : Int) (n : Nat) (tx tn : Tok) (x0 : 0 ≤ x) (hn0 : 0 < n) (hn : n ≤ 2 ^ 10) (hx : x < 2 ^ (63 * n)) :
    TellT w mean mg mb 91 70 [.int x tx, .int n tn] (fun _ => True) (fun h r h' => ∃ l vs k, r = .ref l ∧ h.get? l = none ∧ h'.get? l = some (W.listOf vs.toArray k) ∧ IntsAre vs (digs n ((Builtin.Int.intBits x + n - 1) / n) x)) := by
  w_on; unfold TellT; k_fill
  intro dp un gd cn cs a ccd cl outer A₀ base h₀ L m s Q E B F X T hk hT hpre hd hu hret
  obtain ⟨C1, C2, p, q, N, S1, S2⟩ := hT
  refine wpAny_call ?_
  k_dflt (refine' enterC ?k1 ?k2 ?k3 ?k4 ?k5 ?kA ?kF ?kK ?k6 ?k7 ?k8 ?k9 ?kB ?kD ?_ ?c2 ?c3 ?c4; (case kA => exact rfl); (case kF => exact rfl); (case kK => assumption); (case k1 => k_asm); (case k2 => k_asm); (case k3 => k_asm); (case k4 => exact N); (case k5 => k_asm); (case k6 => k_is); (case k7 => k_is); (case k8 => ktr_room); (case k9 => exact BindsTo.of_eq rfl); (case kB => exact rfl); (case kD => decide +kernel); (case c2 => exact rfl); (case c3 => exact rfl); (case c4 => exact rfl); k_whole)
  intro g L' h₁ tk cells hg F' N' Y' B' X' T' hlt
  have hgk : ∀ b o, b ≠ 93 → b ≠ 86 → s.heap.get? b = some o → g.get? b = some o := by
    intro b o b1 b2 e
    rw [hg]
    exact hideAll_get _ e (by simp [b1, b2])
  have C' : CodeHd g 90 86 := by
    obtain ⟨o, vs, file, tf, flags, tg, inF, text, tt, e1, r⟩ := C2
    exact ⟨o, vs, file, tf, flags, tg, inF, text, tt, hgk _ _ (by decide) (by decide) (F.keep _ _ e1), r⟩
  have hlen63 : (Builtin.Int.intBits x + n - 1) / n ≤ 63 := by
    have hb : Builtin.Int.intBits x ≤ 63 * n := intBits_le_iff.mpr (by
      have h2 : ((x.natAbs : Nat) : Int) < ((2 ^ (63 * n) : Nat) : Int) := by rw [Int.natAbs_of_nonneg x0]; push_cast; exact hx
      exact_mod_cast h2)
    have : (Builtin.Int.intBits x + n - 1) / n < 64 := Nat.div_lt_of_lt_mul (by lia)
    lia
  have hlenz : (Builtin.Int.intBits x + n - 1) / n ≤ 2 ^ 20 := Nat.le_trans hlen63 (by decide)
  have hlen62 : (Builtin.Int.intBits x + n - 1) / n < 2 ^ 62 := Nat.lt_of_le_of_lt hlen63 (by decide)
  have h93 : @LT.lt Nat _ 93 L' := hlt _ (.head _)
  have h86 : @LT.lt Nat _ 86 L' := hlt _ (.tail _ (.head _))
  k_cells Y'
  (try simp only [List.cons_append, List.nil_append] at N')
  have hget : ∀ b, b ≠ 93 → b ≠ 86 → g.get? b = none → s.heap.get? b = none := by
    intro b b1 b2 e
    cases q2 : s.heap.get? b with
    | none => rfl
    | some o => rw [hgk b o b1 b2 q2] at e; cases e
  have hxl : x < 2 ^ (((Builtin.Int.intBits x + n - 1) / n - 0) * n) := by
    have h1 : Builtin.Int.intBits x ≤ (Builtin.Int.intBits x + n - 1) / n * n := by
      have h3 := Nat.div_add_mod (Builtin.Int.intBits x + n - 1) n
      have h4 := Nat.mod_lt (Builtin.Int.intBits x + n - 1) hn0
      rw [Nat.mul_comm] at h3
      lia
    have h2 := intBits_le_iff.mp h1
    have h5 : ((x.natAbs : Nat) : Int) < ((2 ^ ((Builtin.Int.intBits x + n - 1) / n * n) : Nat) : Int) := by exact_mod_cast h2
    rw [Int.natAbs_of_nonneg x0] at h5
    rw [Nat.sub_zero]
    push_cast at h5; exact h5
  have hpos : x ≠ 0 → 0 < (Builtin.Int.intBits x + n - 1) / n := by
    intro hx0
    refine Nat.pos_of_ne_zero fun e => ?_
    rw [e, Nat.zero_sub, Nat.zero_mul, Int.pow_zero] at hxl
    lia
  rcases S2 with rfl | ⟨c0, hn1, hn2, rfl, hc0⟩
  · (try dsimp only); (try k_fold)
    k_steps
    · show wpAny _ _ (call (Value.ref _) [Value.int _ _, Value.int ((0 : Nat) : Int) _, Value.int _ _]) _ _ _
      rename_i N2 _ hx0
      refine' tellM_use (c_i2d_inner w mean mg mb ?hd ?h1 ?h2 ?h3 hn ((Builtin.Int.intBits x + n - 1) / n) 0 ((Builtin.Int.intBits x + n - 1) / n) (hpos hx0) (by lia) x x0 hxl _ _ (ints_rep _ _) (by rw [List.length_replicate]; exact Nat.le_refl _) (by rw [List.length_replicate]; exact hlen63) _ _ _) B' (by assumption) X' (news_third N2) ?hr T' rfl ⟨N2.get (.head _), ?q2, ?q3, ?q4, ?q5⟩ ?d ?u ?ret
      case hd => exact rfl
      case h1 => exact rfl
      case h2 => exact rfl
      case h3 => exact rfl
      case hr => repeat' (first | exact List.forall_mem_nil _ | (refine List.forall_mem_cons.mpr ⟨neN (by lia), ?_⟩))
      case q2 => exact codeRec_news N2 (by k_mem) (by assumption) (by assumption)
      case q3 => exact ⟨_, N2.get (by k_mem), by assumption⟩
      case q4 => exact ⟨_, N2.get (by k_mem), by assumption⟩
      case q5 => exact ⟨_, N2.get (by k_mem), by assumption⟩
      case d => ktr_room
      case u => ktr_units
      case ret =>
        rintro o3 h' tk' F3 N3 k3 ⟨vs3, rfl, i3⟩
        (try dsimp only)
        k_steps
        have kT : KeepsT s.heap h' := fun b o b1 b2 e => F3.keep b o (hgk b o b1 b2 e)
        rw [Nat.sub_zero, put_all (digs_length _ _ _)] at i3
        exact hret _ _ _ kT ⟨C1, C2, _, _, tabs_news N N3 (by k_mem) (by k_mem), S1.keeps kT, .inr ⟨_, neN (by lia), neN (by lia), rfl, codeRec_news N3 (by k_mem) (by assumption) (by assumption)⟩⟩ ⟨_, _, _, rfl, hget _ (neN (by lia)) (neN (by lia)) (N3 _ (.head _)).2.2, N3.get (.head _), i3⟩
    · rename_i F9 N9 _ hx0
      subst hx0
      have kT : KeepsT s.heap _ := fun b o b1 b2 e => F9.keep b o (hgk b o b1 b2 e)
      have e0 : (Builtin.Int.intBits 0 + n - 1) / n = 0 := by
        rw [show Builtin.Int.intBits 0 = 0 from rfl]
        exact Nat.div_eq_of_lt (by lia)
      refine hret _ _ _ kT ⟨C1, C2, _, _, tabs_news N N9 (by k_mem) (by k_mem), S1.keeps kT, .inr ⟨_, neN (by lia), neN (by lia), rfl, codeRec_news N9 (by k_mem) (by assumption) (by assumption)⟩⟩ ⟨_, _, _, rfl, hget _ (neN (by lia)) (neN (by lia)) (N9 _ (.tail _ (.tail _ (.head _)))).2.2, N9.get (.tail _ (.tail _ (.head _))), ?_⟩
      rw [e0]; exact .nil
  · have hcg : g.CodeRec (.ref c0) qual2 := by
      obtain ⟨c, o, vs, t, e1, e2, e3, e4⟩ := hc0
      cases e1
      exact ⟨_, o, vs, t, rfl, hgk _ _ hn1 hn2 e2, e3, e4⟩
    (try dsimp only); (try k_fold)
    k_steps
    · show wpAny _ _ (call (Value.ref _) [Value.int _ _, Value.int ((0 : Nat) : Int) _, Value.int _ _]) _ _ _
      rename_i N2 _ hx0
      refine' tellM_use (c_i2d_inner w mean mg mb ?hd ?h1 ?h2 ?h3 hn ((Builtin.Int.intBits x + n - 1) / n) 0 ((Builtin.Int.intBits x + n - 1) / n) (hpos hx0) (by lia) x x0 hxl _ _ (ints_rep _ _) (by rw [List.length_replicate]; exact Nat.le_refl _) (by rw [List.length_replicate]; exact hlen63) _ _ _) B' (by assumption) X' (news_second N2) ?hr T' rfl ⟨N2.get (.head _), ?q2, ?q3, ?q4, ?q5⟩ ?d ?u ?ret
      case hd => exact rfl
      case h1 => exact rfl
      case h2 => exact rfl
      case h3 => exact rfl
      case hr => repeat' (first | exact List.forall_mem_nil _ | (refine List.forall_mem_cons.mpr ⟨neN (by lia), ?_⟩))
      case q2 => exact codeRec_keeps hcg (Fr.keep (by assumption))
      case q3 => exact ⟨_, N2.get (by k_mem), by assumption⟩
      case q4 => exact ⟨_, N2.get (by k_mem), by assumption⟩
      case q5 => exact ⟨_, N2.get (by k_mem), by assumption⟩
      case d => ktr_room
      case u => ktr_units
      case ret =>
        rintro o3 h' tk' F3 N3 k3 ⟨vs3, rfl, i3⟩
        (try dsimp only)
        k_steps
        have kT : KeepsT s.heap h' := fun b o b1 b2 e => F3.keep b o (hgk b o b1 b2 e)
        rw [Nat.sub_zero, put_all (digs_length _ _ _)] at i3
        exact hret _ _ _ kT ⟨C1, C2, _, _, tabs_news N N3 (by k_mem) (by k_mem), S1.keeps kT, .inr ⟨_, hn1, hn2, rfl, codeRec_keeps hcg F3.keep⟩⟩ ⟨_, _, _, rfl, hget _ (neN (by lia)) (neN (by lia)) (N3 _ (.head _)).2.2, N3.get (.head _), i3⟩
    · rename_i F9 N9 _ hx0
      subst hx0
      have kT : KeepsT s.heap _ := fun b o b1 b2 e => F9.keep b o (hgk b o b1 b2 e)
      have e0 : (Builtin.Int.intBits 0 + n - 1) / n = 0 := by
        rw [show Builtin.Int.intBits 0 = 0 from rfl]
        exact Nat.div_eq_of_lt (by lia)
      refine hret _ _ _ kT ⟨C1, C2, _, _, tabs_news N N9 (by k_mem) (by k_mem), S1.keeps kT, .inr ⟨_, hn1, hn2, rfl, codeRec_keeps hcg F9.keep⟩⟩ ⟨_, _, _, rfl, hget _ (neN (by lia)) (neN (by lia)) (N9 _ (.tail _ (.head _))).2.2, N9.get (.tail _ (.head _)), ?_⟩
      rw [e0]; exact .nil
end
end
section
theorem word11 : True := by
  k_with_none
  k_with "my enter" => ((refine wpAny_call ?_; refine' enterP ?k1 ?k2 ?k3 ?k5 ?kA ?kF ?kK ?k6 ?k7 ?k8 ?k9 ?kB ?_ ?c2 ?c3 ?c4 ?c5; (case kA => exact rfl); (case kF => exact rfl); (case kK => assumption); (case k1 => k_asm); (case k2 => k_asm); (case k3 => k_asm); (case k5 => k_asm); (case k6 => k_is); (case k7 => k_is); (case k8 => ktr_room); (case k9 => exact BindsTo.of_eq rfl); (case c5 => decide); (case kB => exact locs rfl); (case c2 => exact rfl); (case c3 => exact rfl); (case c4 => exact rfl); k_whole))
  k_with "my use" => (((case k1 => k_asm); (case k2 => k_asm); (case k3 => k_asm); (case k4 => k_asm); (case k5 => k_asm); (case kK => first | exact rfl | assumption); (case kd => ktr_room); (case ku => ktr_units)))
  k_with "pyIter ref" => (refine Hold.out ?_)
  k_with "UnrEnd" => (refine Hold.out ?_)
  k_with "callWith" => (((with_reducible show wpAny _ _ (callWith _ (Prod.fst _) (Prod.snd _) _ _) _ _ _); dsimp only; (with_reducible refine callWith_method1 ?_ ?he ?hp); (case he => rfl); (case hp => rfl)))
  k_with "call builtin:list.append" => (((show wpAny _ _ (call (Value.builtin "list.append") [Value.ref _, _]) _ _ _); k_dflt (refine' append_list ?k1 ?k2 ?k3 ?z ?_; (case k1 => k_asm); (case k2 => k_asm); (case k3 => k_upd); (case z => walk_at "my size"); k_whole); intro _ _ _; (try dsimp only)))
  k_with "my size" => (first | with_reducible assumption | exact Nat.le_of_ble_eq_true rfl | (rw [sizeLine_eq]; omega))
  k_with "my fits" => (first | with_reducible assumption | omega)
  k_with "newList" => ((k_dflt (refine' newl_made ?k1 ?k2 ?_ ?z; (case k1 => k_asm); (case k2 => k_asm); (case z => walk_at "my size"); k_whole); intro _ _ _ _ _; (try dsimp only)))
  k_with "call type:reversed" => ((k_here; (with_reducible show wpAny _ _ (call (Value.type _) [Value.ref _]) _ _ _); k_dflt (refine' krv_reversed ?F ?N ?l ?_; (case F => k_asm); (case N => k_asm); (case l => is_list)); intro _ _ _ _ _))
  k_with "call builtin:list.reverse" => (((show wpAny _ _ (call (Value.builtin "list.reverse") [Value.ref _]) _ _ _); k_dflt (refine' rev_made ?k1 ?k2 ?k3 ?z ?_; (case k1 => k_asm); (case k2 => k_asm); (case k3 => k_upd); (case z => walk_at "my size"); k_whole); intro _ _ _; (try dsimp only)))
  k_with "call builtin:len" => (((show wpAny _ _ (call (Value.builtin "len") [Value.ref _]) _ _ _); k_dflt (refine' len_made ?k1 ?k2 ?k3 ?k4 ?_; (case k1 => k_asm); (case k2 => k_mem); (case k3 => (first | exact rfl | assumption)); (case k4 => first | decide | walk_at "my fits")); (try dsimp only)))
  k_with "call builtin:list.pop" => (((show wpAny _ _ (call (Value.builtin "list.pop") [Value.ref _]) _ _ _); k_dflt (refine' pop_made ?k1 ?k2 ?k3 ?z ?_; (case k1 => k_asm); (case k2 => k_asm); (case k3 => k_upd); (case z => walk_at "my size"); k_whole); intro _ _ _; (try dsimp only)))
  k_with "binaryOp Add ref ref" => (((with_reducible show wpAny _ _ (binaryOp _ (Value.ref _) (Value.ref _)) _ _ _); k_dflt (refine' add_made ?k1 ?k2 ?k3 ?k4 ?z ?_; (case k1 => k_asm); (case k2 => k_asm); (case k3 => k_mem); (case k4 => k_mem); (case z => walk_at "my size"); k_whole); intro _ _ _ _ _; (try dsimp only)))
  exact True.intro
/-- the tables, what a code object they name lies in the ground or in the ledger -/
noncomputable def TabG (h₀ : Heap) (cs : List (Addr × Obj)) (ps : Array Value) (line col : Nat) (q : Str) : Prop :=
  ps = #[] ∨ ∃ c' o vs t, c' ≠ 93 ∧ c' ≠ 86 ∧ ps = #[rawInt line, rawInt col, .ref c'] ∧ (h₀.get? c' = some o ∨ (c', o) ∈ cs) ∧ o.data = .fields vs ∧ vs[1]? = some (.str q t)
theorem TabG.st {h₀ h : Heap} {L : Addr} {m : Str → Option Value} {cs news : List (Addr × Obj)} {ps : Array Value} {line col : Nat} {q : Str} (x : TabG h₀ cs ps line col q) (F : Fr h₀ L h m) (N : News h₀ L h news) (sub : ∀ p ∈ cs, p ∈ news) : TabSt h ps line col q := by
  rcases x with rfl | ⟨c', o, vs, t, n1, n2, e, hc, hd, hv⟩
  · exact .inl rfl
  · refine .inr ⟨c', n1, n2, e, c', o, vs, t, rfl, ?_, hd, hv⟩
    rcases hc with hc | hc
    · exact F.keep _ _ hc
    · exact (N _ (sub _ hc)).1
theorem TabG.mono {h₀ : Heap} {cs cs' : List (Addr × Obj)} {ps : Array Value} {line col : Nat} {q : Str} (x : TabG h₀ cs ps line col q) (sub : ∀ p ∈ cs, p ∈ cs') : TabG h₀ cs' ps line col q := by
  rcases x with rfl | ⟨c', o, vs, t, n1, n2, e, hc, hd, hv⟩
  · exact .inl rfl
  · exact .inr ⟨c', o, vs, t, n1, n2, e, hc.imp id (sub _), hd, hv⟩
theorem tabG_of {h₀ h : Heap} {L : Addr} {m : Str → Option Value} {ps : Array Value} {line col : Nat} {q : Str} (F : Fr h₀ L h m) (x : TabSt h ps line col q) :
    ∃ cs, News h₀ L h cs ∧ (∀ p ∈ cs, ∃ vs q t, p.2.data = .fields vs ∧ vs[1]? = some (.str q t)) ∧ TabG h₀ cs ps line col q := by
  rcases x with rfl | ⟨c', n1, n2, e, c, o, vs, t, e1, e2, e3, e4⟩
  · exact ⟨[], News.nil, (fun _ h => nomatch h), .inl rfl⟩
  · cases e1
    cases hg : h₀.get? c' with
    | some o' =>
      have h1 := F.keep _ _ hg
      rw [e2] at h1
      cases h1
      exact ⟨[], News.nil, (fun _ h => nomatch h), .inr ⟨c', o, vs, t, n1, n2, e, .inl hg, e3, e4⟩⟩
    | none =>
      refine ⟨[(c', o)], fun p hp => ?_, fun p hp => ?_, .inr ⟨c', o, vs, t, n1, n2, e, .inr (.head _), e3, e4⟩⟩
      · rw [List.mem_singleton.mp hp]
        refine ⟨e2, fun q => ?_, hg⟩
        obtain ⟨oL, es, ep, hL, hLd, _⟩ := F.ns
        have q' : c' = L := q
        rw [q', hL] at e2
        cases e2
        rw [hLd] at e3; cases e3
      · rw [List.mem_singleton.mp hp]; exact ⟨_, _, _, e3, e4⟩
structure Tabs (h₀ : Heap) (p q : Array Value) (cs : List (Addr × Obj)) : Prop where
  c1 : CodeHd h₀ 97 93
  c2 : CodeHd h₀ 90 86
  g1 : TabG h₀ cs p 67 4 qual1
  g2 : TabG h₀ cs q 52 4 qual2
  fo : ∀ x ∈ cs, ∃ vs q t, x.2.data = .fields vs ∧ vs[1]? = some (.str q t)
/-- no code object -/
noncomputable def NoCode (o : Obj) : Prop := ∀ vs, o.data = .fields vs → ∀ q t, vs[1]? ≠ some (.str q t)
theorem noCode_seq {c : Value} {d : Option Addr} {vs : Array Value} {k : Nat} {sl : Array (Option Value)} : NoCode ⟨c, d, .seq vs k, sl⟩ := fun _ h => nomatch h
theorem noCode_it {c : Value} {d : Option Addr} {a : Value} {i : Int} {sl : Array (Option Value)} : NoCode ⟨c, d, .fields #[a, rawInt i], sl⟩ := fun vs h q t e => by
  cases h
  cases e
theorem noCode_itR {x y : Int} : NoCode (itR x y) := fun vs h q t e => by
  cases h
  cases e
theorem Tabs.off {h₀ g h : Heap} {L : Addr} {p q : Array Value} {cs news : List (Addr × Obj)} {D : Addr} {o : Obj} (x : Tabs h₀ p q cs) (N : News g L h news) (hm : (D, o) ∈ news) (sub : ∀ y ∈ cs, y ∈ news) (ho : NoCode o) : ∀ y ∈ cs, y.1 ≠ D := by
  intro y hy e
  obtain ⟨ws, q, t, e2, e3⟩ := x.fo y hy
  have h1 := (N _ (sub y hy)).1
  rw [e, (N _ hm).1] at h1
  have h2 := Option.some.inj h1
  rw [← h2] at e2
  exact ho _ e2 _ _ e3
noncomputable abbrev tabL (p q : Array Value) (cs : List (Addr × Obj)) : List (Addr × Obj) := (93, tabObj p) :: (86, tabObj q) :: cs
theorem tabs_of {h₀ h : Heap} {L : Addr} {m : Str → Option Value} (F : Fr h₀ L h m) (x : TabsOk h₀ L h) : ∃ p q cs, News h₀ L h (tabL p q cs) ∧ Tabs h₀ p q cs := by
  obtain ⟨C1, C2, p, q, N, S1, S2⟩ := x
  obtain ⟨cs1, N1, f1, G1⟩ := tabG_of F S1
  obtain ⟨cs2, N2, f2, G2⟩ := tabG_of F S2
  refine ⟨p, q, cs1 ++ cs2, fun x hx => ?_, C1, C2, G1.mono fun _ h => List.mem_append_left _ h, G2.mono fun _ h => List.mem_append_right _ h, fun x hx => (List.mem_append.mp hx).elim (f1 x) (f2 x)⟩
  rcases List.mem_cons.mp hx with rfl | hx
  · exact N _ (.head _)
  rcases List.mem_cons.mp hx with rfl | hx
  · exact N _ (.tail _ (.head _))
  rcases List.mem_append.mp hx with hx | hx
  · exact N1 _ hx
  · exact N2 _ hx
theorem Tabs.ok {h₀ h : Heap} {L : Addr} {m : Str → Option Value} {p q : Array Value} {cs news : List (Addr × Obj)} (x : Tabs h₀ p q cs) (F : Fr h₀ L h m) (N : News h₀ L h news) (sub : ∀ y ∈ tabL p q cs, y ∈ news) : TabsOk h₀ L h :=
  ⟨x.c1, x.c2, p, q, fun y hy => by
    rcases List.mem_cons.mp hy with rfl | hy
    · exact N _ (sub _ (.head _))
    · rw [List.mem_singleton.mp hy]; exact N _ (sub _ (.tail _ (.head _))), x.g1.st F N fun y hy => sub _ (.tail _ (.tail _ hy)), x.g2.st F N fun y hy => sub _ (.tail _ (.tail _ hy))⟩
section
variable {w : World} {mean : ExcName → Option Value} {mg mb : Str → Option Value} {f : Addr} {D : Nat} {vs : List Value} {Pre : Heap → Prop} {Post : Heap → Value → Heap → Prop}
  {dp un : Nat} {gd : Option (List Code)} {cn : Str} {cs : Scope} {a : Addr} {ccd : Value} {cl : List (Str × Addr)} {outer : List Env} {A₀ : Around} {base h₀ : Heap} {L : Addr} {m : Str → Option Value} {s : Shared} {top tc : List (Addr × Obj)} {p q : Array Value} {Q E : Value → Shared → Prop}
theorem tellT_use (top : List (Addr × Obj)) (C : TellT w mean mg mb f D vs Pre Post) (B : Below A₀ base outer h₀) (F : Fr h₀ L s.heap m) (X : (Mine.hd.heap_39 w.params).In h₀) (N : News h₀ L s.heap (top ++ tabL p q tc)) (G : Tabs h₀ p q tc) (hoff : ∀ x ∈ top, x.1 ≠ 93 ∧ x.1 ≠ 86) (T : Top topProg loose0 mean mg mb h₀) (hk : cs.kind = .function) (hp : Pre s.heap)
    (hd : dp + D < recursionLimit) (hu : un + 8 * D < cLine)
    (ret : ∀ r h' tk' p' q' tc', Fr h₀ L h' m → News h₀ L h' (top ++ tabL p' q' tc') → Tabs h₀ p' q' tc' → KeepsT s.heap h' → Post s.heap r h' → Q r { s with heap := h', toks := tk' }) :
    wpAny (model Challenge.rw_pg0127_01.row.prog w) (ktrTop dp un gd cn cs L a ccd cl outer) (call (.ref f) vs) Q E s := by
  unfold TellT at C
  refine C _ _ _ _ _ _ _ _ _ _ _ _ _ _ _ _ _ B F X T hk (G.ok F N fun y hy => List.mem_append_right _ hy) hp hd hu fun r h' tk' k ok po => ?_
  have z1 := N (93, tabObj p) (List.mem_append_right _ (.head _))
  have z2 := N (86, tabObj q) (List.mem_append_right _ (.tail _ (.head _)))
  have F' : Fr h₀ L h' m := by
    obtain ⟨oL, es, ep, hL, r⟩ := F.ns
    refine ⟨⟨oL, es, ep, k _ _ (Ne.symm z1.2.1) (Ne.symm z2.2.1) hL, r⟩, fun b x q => k _ _ (fun q2 => ?_) (fun q2 => ?_) (F.keep b x q), F.above⟩
    · rw [q2, z1.2.2] at q; cases q
    · rw [q2, z2.2.2] at q; cases q
  obtain ⟨p', q', tc', N', G'⟩ := tabs_of F' ok
  refine ret r h' tk' p' q' tc' F' (fun x hx => ?_) G' k po
  rcases List.mem_append.mp hx with hx | hx
  · have n := N x (List.mem_append_left _ hx)
    exact ⟨k _ _ (hoff x hx).1 (hoff x hx).2 n.1, n.2⟩
  · exact N' x hx
end
theorem made_one {h h' : Heap} {l : Addr} {o : Obj} (e1 : h.get? l = none) (e2 : h'.get? l = some o) : Made h h' [(l, o)] := fun p hp => by
  rw [List.mem_singleton.mp hp]; exact ⟨e2, e1⟩
theorem tab_ne1 {h₀ h : Heap} {L l : Addr} {p q : Array Value} {top tc : List (Addr × Obj)} (N : News h₀ L h (top ++ tabL p q tc)) (e1 : h.get? l = none) : (93 : Addr) ≠ l := fun e => by
  have := (N (93, tabObj p) (List.mem_append_right _ (.head _))).1
  rw [← e, this] at e1; cases e1
theorem tab_ne2 {h₀ h : Heap} {L l : Addr} {p q : Array Value} {top tc : List (Addr × Obj)} (N : News h₀ L h (top ++ tabL p q tc)) (e1 : h.get? l = none) : (86 : Addr) ≠ l := fun e => by
  have := (N (86, tabObj q) (List.mem_append_right _ (.tail _ (.head _)))).1
  rw [← e, this] at e1; cases e1
section
variable {prog : Program} {w : World} {A₀ A : Around} {s : Shared} {base h₀ : Heap} {outer : List Env} {L : Addr} {m mg mb : Str → Option Value} {env : Env} {K : Frag} {p : Program} {loose : List Str} {mean : ExcName → Option Value}
  {R : Result → Shared → Prop} {name qual : Str} {params : Arguments} {body : List Stmt} {scope : Scope} {dV kV doc pm cdv ct oc : Value} {an od : Option Addr} {osl : Array (Option Value)} {f : Addr} {args : Args} {binds : List (Str × Value)}
/-- what leads back out of a def that may fill the tables -/
structure Outer (h₀ : Heap) (L : Addr) (h g : Heap) (L' : Addr) : Prop where
  lt1 : @LT.lt Nat _ 93 L'
  lt2 : @LT.lt Nat _ 86 L'
  stay : ∀ b o, b ≠ 93 → b ≠ 86 → h.get? b = some o → g.get? b = some o
  fresh : ∀ b, b ≠ 93 → b ≠ 86 → g.get? b = none → h.get? b = none
  back : ∀ h' m' all p' q' cs, Fr g L' h' m' → News g L' h' all → Tabs g p' q' cs → (∀ x ∈ tabL p' q' cs, x ∈ all) → KeepsT h h' ∧ TabsOk h₀ L h'
/-- a def of the text entered that may fill the tables -/
theorem enterT (B : Below A₀ base outer h₀) (F : Fr h₀ L s.heap m) (X₀ : K.In h₀) (TO : TabsOk h₀ L s.heap) (T : Top p loose mean mg mb h₀) (hA : A.frames = some (env :: outer)) (hf : env.frame = some L) (hke : env.scope.kind = .function)
    (ho : K.lookup f = some ⟨oc, od, .func (fnOf name qual params body scope dV kV doc pm an cdv ct), osl⟩) (hcd : codeIn K cdv qual = true) (hroom : A.depth < recursionLimit)
    (hbind : BindsTo s (fnOf name qual params body scope dV kV doc pm an cdv ct) args binds) (hloc : ∀ y ∈ binds, scope.names.lookup y.1 = some .local)
    (h : ∀ g L' h₁ ps qs, Fr g L' h₁ (fun y => binds.reverse.lookup y) → News g L' h₁ (tabL ps qs []) → Tabs g ps qs [] → Below A base (env :: outer) g → K.In g → Top p loose mean mg mb g → Outer h₀ L s.heap g L' →
      wpAny (model prog w) (A.deeper (envOf qual scope L' f cdv)) (execs body (envOf qual scope L' f cdv))
        (fun fl s' => R (.ok (.ret (match fl with | .ret v => v | _ => .none))) s')
        (fun e s' => wpAny (model prog w) (A.deeper (envOf qual scope L' f cdv)) (leaving (envOf qual scope L' f cdv) e) (fun _ s'' => R (.error e) s'') (fun e' s'' => R (.error e') s'') s')
        { s with heap := h₁, toks := s.toks + binds.length })
    (hco : scope.isCoroutine = false) (hgen : scope.isGenerator = false) (hk : scope.kind = .function)
    (hcell : ∀ x ∈ scope.names, x.2 ≠ .cell) : codeAny (model prog w) A (.call (.ref f) args) R s := by
  obtain ⟨C1, C2, ps, qs, N, S1, S2⟩ := TO
  refine enterM B F X₀ N T hA hf hke ho hcd hroom hbind hloc (fun g L' h₁ hg F' N' B' X' T' hlt => ?_) hco hgen hk hcell
  have hgk : ∀ b o, b ≠ 93 → b ≠ 86 → s.heap.get? b = some o → g.get? b = some o := by
    intro b o b1 b2 e
    rw [hg]
    exact hideAll_get _ e (by simp [b1, b2])
  have hC : ∀ {c P}, CodeHd h₀ c P → c ≠ 93 → c ≠ 86 → CodeHd g c P := by
    rintro c P ⟨o, vs, file, tf, flags, tg, inF, text, tt, e1, r⟩ n1 n2
    exact ⟨o, vs, file, tf, flags, tg, inF, text, tt, hgk _ _ n1 n2 (F.keep _ _ e1), r⟩
  have hG : ∀ {ps line col q}, TabSt s.heap ps line col q → TabG g [] ps line col q := by
    rintro ps line col q (rfl | ⟨c', n1, n2, e, c, o, vs, t, e1, e2, e3, e4⟩)
    · exact .inl rfl
    · cases e1
      exact .inr ⟨c', o, vs, t, n1, n2, e, .inl (hgk _ _ n1 n2 e2), e3, e4⟩
  refine h g L' h₁ ps qs F' N' ⟨hC C1 (by decide) (by decide), hC C2 (by decide) (by decide), hG S1, hG S2, (fun _ h => nomatch h)⟩ B' X' T' ⟨hlt _ (.head _), hlt _ (.tail _ (.head _)), hgk, ?_, ?_⟩
  · intro b b1 b2 e
    cases q2 : s.heap.get? b with
    | none => rfl
    | some o => rw [hgk b o b1 b2 q2] at e; cases e
  · intro h' m' all p' q' cs Fb Nb Gb sub
    refine ⟨fun b o b1 b2 e => Fb.keep _ _ (hgk b o b1 b2 e), C1, C2, p', q', ?_, Gb.g1.st Fb Nb fun y hy => sub _ (.tail _ (.tail _ hy)), Gb.g2.st Fb Nb fun y hy => sub _ (.tail _ (.tail _ hy))⟩
    exact tabs_news N Nb (sub _ (.head _)) (sub _ (.tail _ (.head _)))
end
end
section
theorem word12 : True := by
  k_with_none
  k_with "my enter" => ((refine wpAny_call ?_; refine' enterP ?k1 ?k2 ?k3 ?k5 ?kA ?kF ?kK ?k6 ?k7 ?k8 ?k9 ?kB ?_ ?c2 ?c3 ?c4 ?c5; (case kA => exact rfl); (case kF => exact rfl); (case kK => assumption); (case k1 => k_asm); (case k2 => k_asm); (case k3 => k_asm); (case k5 => k_asm); (case k6 => k_is); (case k7 => k_is); (case k8 => ktr_room); (case k9 => exact BindsTo.of_eq rfl); (case c5 => decide); (case kB => exact locs rfl); (case c2 => exact rfl); (case c3 => exact rfl); (case c4 => exact rfl); k_whole))
  k_with "my use" => (((case k1 => k_asm); (case k2 => k_asm); (case k3 => k_asm); (case k4 => k_asm); (case k5 => k_asm); (case kK => first | exact rfl | assumption); (case kd => ktr_room); (case ku => ktr_units)))
  k_with "pyIter ref" => (refine Hold.out ?_)
  k_with "UnrEnd" => (refine Hold.out ?_)
  k_with "callWith" => (((with_reducible show wpAny _ _ (callWith _ (Prod.fst _) (Prod.snd _) _ _) _ _ _); dsimp only; (with_reducible refine callWith_method1 ?_ ?he ?hp); (case he => rfl); (case hp => rfl)))
  k_with "call builtin:list.append" => (((show wpAny _ _ (call (Value.builtin "list.append") [Value.ref _, _]) _ _ _); k_dflt (refine' append_list ?k1 ?k2 ?k3 ?z ?_; (case k1 => k_asm); (case k2 => k_asm); (case k3 => k_upd); (case z => walk_at "my size"); k_whole); intro _ _ _; (try dsimp only)))
  k_with "my size" => (first | with_reducible assumption | exact Nat.le_of_ble_eq_true rfl | (rw [sizeLine_eq]; omega))
  k_with "my fits" => (first | with_reducible assumption | omega)
  k_with "newList" => ((k_dflt (refine' newl_made ?k1 ?k2 ?_ ?z; (case k1 => k_asm); (case k2 => k_asm); (case z => walk_at "my size"); k_whole); intro _ _ _ _ _; (try dsimp only)))
  k_with "call type:reversed" => ((k_here; (with_reducible show wpAny _ _ (call (Value.type _) [Value.ref _]) _ _ _); k_dflt (refine' krv_reversed ?F ?N ?l ?_; (case F => k_asm); (case N => k_asm); (case l => is_list)); intro _ _ _ _ _))
  k_with "call builtin:list.reverse" => (((show wpAny _ _ (call (Value.builtin "list.reverse") [Value.ref _]) _ _ _); k_dflt (refine' rev_made ?k1 ?k2 ?k3 ?z ?_; (case k1 => k_asm); (case k2 => k_asm); (case k3 => k_upd); (case z => walk_at "my size"); k_whole); intro _ _ _; (try dsimp only)))
  k_with "call builtin:len" => (((show wpAny _ _ (call (Value.builtin "len") [Value.ref _]) _ _ _); k_dflt (refine' len_made ?k1 ?k2 ?k3 ?k4 ?_; (case k1 => k_asm); (case k2 => k_mem); (case k3 => (first | exact rfl | assumption)); (case k4 => first | decide | walk_at "my fits")); (try dsimp only)))
  k_with "call builtin:list.pop" => (((show wpAny _ _ (call (Value.builtin "list.pop") [Value.ref _]) _ _ _); k_dflt (refine' pop_made ?k1 ?k2 ?k3 ?z ?_; (case k1 => k_asm); (case k2 => k_asm); (case k3 => k_upd); (case z => walk_at "my size"); k_whole); intro _ _ _; (try dsimp only)))
  k_with "binaryOp Add ref ref" => (((with_reducible show wpAny _ _ (binaryOp _ (Value.ref _) (Value.ref _)) _ _ _); k_dflt (refine' add_made ?k1 ?k2 ?k3 ?k4 ?z ?_; (case k1 => k_asm); (case k2 => k_asm); (case k3 => k_mem); (case k4 => k_mem); (case z => walk_at "my size"); k_whole); intro _ _ _ _ _; (try dsimp only)))
  exact True.intro

/-- a figure or letter; a mark; the step -/
noncomputable def aln (c : Int) : Bool := decide ((65 ≤ c ∧ c ≤ 90) ∨ (97 ≤ c ∧ c ≤ 122) ∨ (48 ≤ c ∧ c ≤ 57))
noncomputable def pun (c : Int) : Bool := decide (33 ≤ c ∧ c ≤ 126 ∧ ¬ ((65 ≤ c ∧ c ≤ 90) ∨ (97 ≤ c ∧ c ≤ 122) ∨ (48 ≤ c ∧ c ≤ 57)))
noncomputable def stp (c : Int) : Int := if aln c then 1 else if pun c then -1 else 0

/-- an int, or the text of that one sign -/
noncomputable def Thing (v : Value) (c : Int) : Prop := (∃ t, v = .int c t) ∨ (∃ t, v = .str ⟨#[c.toNat]⟩ t ∧ 0 ≤ c)

theorem thing_int {c : Int} {t : Tok} : Thing (.int c t) c := .inl ⟨t, rfl⟩
theorem thing_str {c : Int} {t : Tok} (h : 0 ≤ c) : Thing (.str ⟨#[c.toNat]⟩ t) c := .inr ⟨t, rfl, h⟩

theorem c_ctoi (w : World) (mean : ExcName → Option Value) (mg mb : Str → Option Value) (v : Value) (c : Int) (hv : Thing v c) :
    Tell w mean mg mb 21 1 [v] (fun _ => True) (fun _ r _ => ∃ t, r = .int c t) := by
  w_on; unfold Tell; k_fill
  intro dp un gd cn cs a' ccd cl outer A₀ base h₀ L m s Q E B F X T hk hpre hd hu hret
  rcases hv with ⟨t, rfl⟩ | ⟨t, rfl, h0⟩
  · k_dflt (walk_at "my enter")
    intro L' h₁ F' N' B' X' T'
    (try dsimp only); (try k_fold)
    k_steps
    exact hret _ _ _ (Fr.keep (by assumption)) ⟨_, rfl⟩
  · k_dflt (walk_at "my enter")
    intro L' h₁ F' N' B' X' T'
    (try dsimp only); (try k_fold)
    k_steps
    exact hret _ _ _ (Fr.keep (by assumption)) ⟨_, congrArg (Value.int · _) (Int.toNat_of_nonneg h0)⟩

theorem word13 : True := by
  k_with "call ref" => ((k_here; k_dflt (refine' tell_use (c_ctoi _ _ _ _ _ _ ?hv) ?k1 ?k2 ?k3 ?k4 ?k5 ?kK ?kp ?kd ?ku ?_; (case hv => assumption); walk_at "my use"; (case kp => exact True.intro)); intro _ _ _ _ _ _ po'; (obtain ⟨_, e'⟩ := po'; subst e'); (try dsimp only)))
  exact True.intro
section
variable (w : World) (mean : ExcName → Option Value) (mg mb : Str → Option Value) (v : Value) (c : Int)
theorem c_isdigit (hv : Thing v c) : Tell w mean mg mb 42 2 [v] (fun _ => True) (fun _ r _ => r = .bool (decide (48 ≤ c ∧ c ≤ 57))) := by
  w_on; unfold Tell; k_fill
  intro dp un gd cn cs a' ccd cl outer A₀ base h₀ L m s Q E B F X T hk hpre hd hu hret
  k_dflt (walk_at "my enter")
  intro L' h₁ F' N' B' X' T'
  (try dsimp only); (try k_fold)
  k_steps
  all_goals (refine hret _ _ _ (Fr.keep (by assumption)) ?_)
  all_goals (show Value.bool _ = Value.bool _)
  all_goals (congr 1; first | (symm; rw [decide_eq_true_eq]; lia) | (symm; rw [decide_eq_false_iff_not]; lia) | (rw [Bool.eq_iff_iff]; simp only [decide_eq_true_eq]; lia))
theorem c_isgraph (hv : Thing v c) : Tell w mean mg mb 49 2 [v] (fun _ => True) (fun _ r _ => r = .bool (decide (33 ≤ c ∧ c ≤ 126))) := by
  w_on; unfold Tell; k_fill
  intro dp un gd cn cs a' ccd cl outer A₀ base h₀ L m s Q E B F X T hk hpre hd hu hret
  k_dflt (walk_at "my enter")
  intro L' h₁ F' N' B' X' T'
  (try dsimp only); (try k_fold)
  k_steps
  all_goals (refine hret _ _ _ (Fr.keep (by assumption)) ?_)
  all_goals (show Value.bool _ = Value.bool _)
  all_goals (congr 1; first | (symm; rw [decide_eq_true_eq]; lia) | (symm; rw [decide_eq_false_iff_not]; lia) | (rw [Bool.eq_iff_iff]; simp only [decide_eq_true_eq]; lia))
theorem c_islower (hv : Thing v c) : Tell w mean mg mb 56 2 [v] (fun _ => True) (fun _ r _ => r = .bool (decide (97 ≤ c ∧ c ≤ 122))) := by
  w_on; unfold Tell; k_fill
  intro dp un gd cn cs a' ccd cl outer A₀ base h₀ L m s Q E B F X T hk hpre hd hu hret
  k_dflt (walk_at "my enter")
  intro L' h₁ F' N' B' X' T'
  (try dsimp only); (try k_fold)
  k_steps
  all_goals (refine hret _ _ _ (Fr.keep (by assumption)) ?_)
  all_goals (show Value.bool _ = Value.bool _)
  all_goals (congr 1; first | (symm; rw [decide_eq_true_eq]; lia) | (symm; rw [decide_eq_false_iff_not]; lia) | (rw [Bool.eq_iff_iff]; simp only [decide_eq_true_eq]; lia))
theorem c_isupper (hv : Thing v c) : Tell w mean mg mb 70 2 [v] (fun _ => True) (fun _ r _ => r = .bool (decide (65 ≤ c ∧ c ≤ 90))) := by
  w_on; unfold Tell; k_fill
  intro dp un gd cn cs a' ccd cl outer A₀ base h₀ L m s Q E B F X T hk hpre hd hu hret
  k_dflt (walk_at "my enter")
  intro L' h₁ F' N' B' X' T'
  (try dsimp only); (try k_fold)
  k_steps
  all_goals (refine hret _ _ _ (Fr.keep (by assumption)) ?_)
  all_goals (show Value.bool _ = Value.bool _)
  all_goals (congr 1; first | (symm; rw [decide_eq_true_eq]; lia) | (symm; rw [decide_eq_false_iff_not]; lia) | (rw [Bool.eq_iff_iff]; simp only [decide_eq_true_eq]; lia))
end
theorem word14 : True := by
  k_with "call ref" => ((k_here; k_dflt (refine' tell_use (c_isdigit _ _ _ _ _ _ ?hv) ?k1 ?k2 ?k3 ?k4 ?k5 ?kK ?kp ?kd ?ku ?_; (case hv => assumption); walk_at "my use"; (case kp => exact True.intro)); intro _ _ _ _ _ _ po'; subst po'; (try dsimp only)))
  k_with "call ref" => ((k_here; k_dflt (refine' tell_use (c_isgraph _ _ _ _ _ _ ?hv) ?k1 ?k2 ?k3 ?k4 ?k5 ?kK ?kp ?kd ?ku ?_; (case hv => assumption); walk_at "my use"; (case kp => exact True.intro)); intro _ _ _ _ _ _ po'; subst po'; (try dsimp only)))
  k_with "call ref" => ((k_here; k_dflt (refine' tell_use (c_islower _ _ _ _ _ _ ?hv) ?k1 ?k2 ?k3 ?k4 ?k5 ?kK ?kp ?kd ?ku ?_; (case hv => assumption); walk_at "my use"; (case kp => exact True.intro)); intro _ _ _ _ _ _ po'; subst po'; (try dsimp only)))
  k_with "call ref" => ((k_here; k_dflt (refine' tell_use (c_isupper _ _ _ _ _ _ ?hv) ?k1 ?k2 ?k3 ?k4 ?k5 ?kK ?kp ?kd ?ku ?_; (case hv => assumption); walk_at "my use"; (case kp => exact True.intro)); intro _ _ _ _ _ _ po'; subst po'; (try dsimp only)))
  exact True.intro
section
variable (w : World) (mean : ExcName → Option Value) (mg mb : Str → Option Value) (v : Value) (c : Int)
theorem c_isalpha (hv : Thing v c) : Tell w mean mg mb 35 3 [v] (fun _ => True) (fun _ r _ => r = .bool (decide ((65 ≤ c ∧ c ≤ 90) ∨ (97 ≤ c ∧ c ≤ 122)))) := by
  w_on; unfold Tell; k_fill
  intro dp un gd cn cs a' ccd cl outer A₀ base h₀ L m s Q E B F X T hk hpre hd hu hret
  k_dflt (walk_at "my enter")
  intro L' h₁ F' N' B' X' T'
  (try dsimp only); (try k_fold)
  k_steps
  all_goals (refine hret _ _ _ (Fr.keep (by assumption)) ?_)
  all_goals (show Value.bool _ = Value.bool _)
  all_goals (congr 1; first | rfl | ((try unfold aln at *); (try unfold pun at *); simp only [decide_eq_true_eq, decide_eq_false_iff_not] at *; first | (symm; rw [decide_eq_true_eq]; lia) | (symm; rw [decide_eq_false_iff_not]; lia) | (rw [Bool.eq_iff_iff]; simp only [decide_eq_true_eq, Bool.not_eq_true', decide_eq_false_iff_not]; lia)))
end
theorem word15 : True := by
  k_with "call ref" => ((k_here; k_dflt (refine' tell_use (c_isalpha _ _ _ _ _ _ ?hv) ?k1 ?k2 ?k3 ?k4 ?k5 ?kK ?kp ?kd ?ku ?_; (case hv => assumption); walk_at "my use"; (case kp => exact True.intro)); intro _ _ _ _ _ _ po'; subst po'; (try dsimp only)))
  exact True.intro
section
variable (w : World) (mean : ExcName → Option Value) (mg mb : Str → Option Value) (v : Value) (c : Int)
theorem c_isalnum (hv : Thing v c) : Tell w mean mg mb 28 4 [v] (fun _ => True) (fun _ r _ => r = .bool (aln c)) := by
  w_on; unfold Tell; k_fill
  intro dp un gd cn cs a' ccd cl outer A₀ base h₀ L m s Q E B F X T hk hpre hd hu hret
  k_dflt (walk_at "my enter")
  intro L' h₁ F' N' B' X' T'
  (try dsimp only); (try k_fold)
  k_steps
  all_goals (refine hret _ _ _ (Fr.keep (by assumption)) ?_)
  all_goals (show Value.bool _ = Value.bool _)
  all_goals (congr 1; first | rfl | ((try unfold aln at *); (try unfold pun at *); simp only [decide_eq_true_eq, decide_eq_false_iff_not] at *; first | (symm; rw [decide_eq_true_eq]; lia) | (symm; rw [decide_eq_false_iff_not]; lia) | (rw [Bool.eq_iff_iff]; simp only [decide_eq_true_eq, Bool.not_eq_true', decide_eq_false_iff_not]; lia)))
end
theorem word16 : True := by
  k_with "call ref" => ((k_here; k_dflt (refine' tell_use (c_isalnum _ _ _ _ _ _ ?hv) ?k1 ?k2 ?k3 ?k4 ?k5 ?kK ?kp ?kd ?ku ?_; (case hv => assumption); walk_at "my use"; (case kp => exact True.intro)); intro _ _ _ _ _ _ po'; subst po'; (try dsimp only)))
  exact True.intro
section
variable (w : World) (mean : ExcName → Option Value) (mg mb : Str → Option Value) (v : Value) (c : Int)
theorem c_ispunct (hv : Thing v c) : Tell w mean mg mb 63 5 [v] (fun _ => True) (fun _ r _ => r = .bool (pun c)) := by
  w_on; unfold Tell; k_fill
  intro dp un gd cn cs a' ccd cl outer A₀ base h₀ L m s Q E B F X T hk hpre hd hu hret
  k_dflt (walk_at "my enter")
  intro L' h₁ F' N' B' X' T'
  (try dsimp only); (try k_fold)
  k_steps
  all_goals (refine hret _ _ _ (Fr.keep (by assumption)) ?_)
  all_goals (show Value.bool _ = Value.bool _)
  all_goals (congr 1; first | rfl | ((try unfold aln at *); (try unfold pun at *); simp only [decide_eq_true_eq, decide_eq_false_iff_not] at *; first | (symm; rw [decide_eq_true_eq]; lia) | (symm; rw [decide_eq_false_iff_not]; lia) | (rw [Bool.eq_iff_iff]; simp only [decide_eq_true_eq, Bool.not_eq_true', decide_eq_false_iff_not]; lia)))
end
theorem lit_an (c : Nat) : (Builtin.Str.occurrences "0123456789abcdefghijklmnopqrstuvwxyzABCDEFGHIJKLMNOPQRSTUVWXYZ" ⟨#[c]⟩ 0 (PySem.Str.ofString "0123456789abcdefghijklmnopqrstuvwxyzABCDEFGHIJKLMNOPQRSTUVWXYZ").length 1).isEmpty = !aln c := by
  have h := StrLaws.found_one (PySem.Str.ofString "0123456789abcdefghijklmnopqrstuvwxyzABCDEFGHIJKLMNOPQRSTUVWXYZ") c
  have h2 : ∀ x : Nat, decide (x ∈ (PySem.Str.ofString "0123456789abcdefghijklmnopqrstuvwxyzABCDEFGHIJKLMNOPQRSTUVWXYZ").cps.toList) = aln x := by
    intro x
    by_cases hx : x < 128
    · revert x; decide +kernel
    · have h3 : ∀ y ∈ (PySem.Str.ofString "0123456789abcdefghijklmnopqrstuvwxyzABCDEFGHIJKLMNOPQRSTUVWXYZ").cps.toList, y < 128 := by decide +kernel
      have : ¬ x ∈ (PySem.Str.ofString "0123456789abcdefghijklmnopqrstuvwxyzABCDEFGHIJKLMNOPQRSTUVWXYZ").cps.toList := fun q => hx (h3 x q)
      rw [decide_eq_false this]; symm; unfold aln; rw [decide_eq_false_iff_not]; lia
  rw [← h2 c, ← h, Bool.not_not]
theorem lit_pu (c : Nat) : (Builtin.Str.occurrences "!+*-/%&|^~<>=?.,:;@#$_()[]{}'\"`\\" ⟨#[c]⟩ 0 (PySem.Str.ofString "!+*-/%&|^~<>=?.,:;@#$_()[]{}'\"`\\").length 1).isEmpty = !pun c := by
  have h := StrLaws.found_one (PySem.Str.ofString "!+*-/%&|^~<>=?.,:;@#$_()[]{}'\"`\\") c
  have h2 : ∀ x : Nat, decide (x ∈ (PySem.Str.ofString "!+*-/%&|^~<>=?.,:;@#$_()[]{}'\"`\\").cps.toList) = pun x := by
    intro x
    by_cases hx : x < 128
    · revert x; decide +kernel
    · have h3 : ∀ y ∈ (PySem.Str.ofString "!+*-/%&|^~<>=?.,:;@#$_()[]{}'\"`\\").cps.toList, y < 128 := by decide +kernel
      have : ¬ x ∈ (PySem.Str.ofString "!+*-/%&|^~<>=?.,:;@#$_()[]{}'\"`\\").cps.toList := fun q => hx (h3 x q)
      rw [decide_eq_false this]; symm; unfold pun; rw [decide_eq_false_iff_not]; lia
  rw [← h2 c, ← h, Bool.not_not]
theorem c_step (w : World) (mean : ExcName → Option Value) (mg mb : Str → Option Value) (c : Int) (tc : Tok) (h0 : 0 ≤ c) (h1 : c < 55296) :
    Tell w mean mg mb 126 1 [.int c tc] (fun _ => True) (fun _ r _ => ∃ t1, r = .int (stp c) t1) := by
  have e := Int.toNat_of_nonneg h0
  w_on; unfold Tell; k_fill
  intro dp un gd cn cs a' ccd cl outer A₀ base h₀ L m s Q E B F X T hk hpre hd hu hret
  k_dflt (walk_at "my enter")
  intro L' h₁ F' N' B' X' T'
  (try dsimp only); (try k_fold)
  k_steps
  all_goals (simp only [lit_an, lit_pu, e, Bool.not_eq_true', Bool.not_eq_false'] at *)
  all_goals (exact hret _ _ _ (Fr.keep (by assumption)) ⟨_, congrArg (Value.int · _) (by unfold stp; simp [*])⟩)
end
section
section
theorem word17 : True := by
  k_with_none
  k_with "my enter" => ((refine wpAny_call ?_; refine' enterP ?k1 ?k2 ?k3 ?k5 ?kA ?kF ?kK ?k6 ?k7 ?k8 ?k9 ?kB ?_ ?c2 ?c3 ?c4 ?c5; (case kA => exact rfl); (case kF => exact rfl); (case kK => assumption); (case k1 => k_asm); (case k2 => k_asm); (case k3 => k_asm); (case k5 => k_asm); (case k6 => k_is); (case k7 => k_is); (case k8 => ktr_room); (case k9 => exact BindsTo.of_eq rfl); (case c5 => decide); (case kB => exact locs rfl); (case c2 => exact rfl); (case c3 => exact rfl); (case c4 => exact rfl); k_whole))
  k_with "my use" => (((case k1 => k_asm); (case k2 => k_asm); (case k3 => k_asm); (case k4 => k_asm); (case k5 => k_asm); (case kK => first | exact rfl | assumption); (case kd => ktr_room); (case ku => ktr_units)))
  k_with "pyIter ref" => (refine Hold.out ?_)
  k_with "UnrEnd" => (refine Hold.out ?_)
  k_with "callWith" => (((with_reducible show wpAny _ _ (callWith _ (Prod.fst _) (Prod.snd _) _ _) _ _ _); dsimp only; (with_reducible refine callWith_method1 ?_ ?he ?hp); (case he => rfl); (case hp => rfl)))
  k_with "call builtin:list.append" => (((show wpAny _ _ (call (Value.builtin "list.append") [Value.ref _, _]) _ _ _); k_dflt (refine' append_list ?k1 ?k2 ?k3 ?z ?_; (case k1 => k_asm); (case k2 => k_asm); (case k3 => k_upd); (case z => walk_at "my size"); k_whole); intro _ _ _; (try dsimp only)))
  k_with "my size" => (first | with_reducible assumption | exact Nat.le_of_ble_eq_true rfl | (rw [sizeLine_eq]; omega))
  k_with "my fits" => (first | with_reducible assumption | omega)
  k_with "newList" => ((k_dflt (refine' newl_made ?k1 ?k2 ?_ ?z; (case k1 => k_asm); (case k2 => k_asm); (case z => walk_at "my size"); k_whole); intro _ _ _ _ _; (try dsimp only)))
  k_with "call type:reversed" => ((k_here; (with_reducible show wpAny _ _ (call (Value.type _) [Value.ref _]) _ _ _); k_dflt (refine' krv_reversed ?F ?N ?l ?_; (case F => k_asm); (case N => k_asm); (case l => is_list)); intro _ _ _ _ _))
  k_with "call builtin:list.reverse" => (((show wpAny _ _ (call (Value.builtin "list.reverse") [Value.ref _]) _ _ _); k_dflt (refine' rev_made ?k1 ?k2 ?k3 ?z ?_; (case k1 => k_asm); (case k2 => k_asm); (case k3 => k_upd); (case z => walk_at "my size"); k_whole); intro _ _ _; (try dsimp only)))
  k_with "call builtin:len" => (((show wpAny _ _ (call (Value.builtin "len") [Value.ref _]) _ _ _); k_dflt (refine' len_made ?k1 ?k2 ?k3 ?k4 ?_; (case k1 => k_asm); (case k2 => k_mem); (case k3 => (first | exact rfl | assumption)); (case k4 => first | decide | walk_at "my fits")); (try dsimp only)))
  k_with "call builtin:list.pop" => (((show wpAny _ _ (call (Value.builtin "list.pop") [Value.ref _]) _ _ _); k_dflt (refine' pop_made ?k1 ?k2 ?k3 ?z ?_; (case k1 => k_asm); (case k2 => k_asm); (case k3 => k_upd); (case z => walk_at "my size"); k_whole); intro _ _ _; (try dsimp only)))
  k_with "binaryOp Add ref ref" => (((with_reducible show wpAny _ _ (binaryOp _ (Value.ref _) (Value.ref _)) _ _ _); k_dflt (refine' add_made ?k1 ?k2 ?k3 ?k4 ?z ?_; (case k1 => k_asm); (case k2 => k_asm); (case k3 => k_mem); (case k4 => k_mem); (case z => walk_at "my size"); k_whole); intro _ _ _ _ _; (try dsimp only)))
  k_with "call ref" => ((k_here; k_dflt (refine' tell_use (c_isalnum _ _ _ _ _ _ ?hv) ?k1 ?k2 ?k3 ?k4 ?k5 ?kK ?kp ?kd ?ku ?_; (case hv => first | assumption | exact thing_int | exact thing_str (by assumption)); walk_at "my use"; (case kp => exact True.intro)); intro _ _ _ _ _ kp' po'; subst po'; clear kp'; (try dsimp only)))
  k_with "call ref" => ((k_here; k_dflt (refine' tell_use (c_ispunct _ _ _ _ _ _ ?hv) ?k1 ?k2 ?k3 ?k4 ?k5 ?kK ?kp ?kd ?ku ?_; (case hv => first | assumption | exact thing_int | exact thing_str (by assumption)); walk_at "my use"; (case kp => exact True.intro)); intro _ _ _ _ _ kp' po'; subst po'; clear kp'; (try dsimp only)))
  exact True.intro
/-- one sign read onto the pile -/
noncomputable def rstep (p : List (List Int)) (c : Int) : Option (List (List Int)) :=
  if pun c then (match p.reverse with | up :: lo :: r => some (r.reverse ++ [lo ++ up ++ [c]]) | _ => none)
  else if aln c then some (p ++ [[c]])
  else (match p.reverse with | up :: r => some (r.reverse ++ [up ++ [c]]) | [] => none)
noncomputable def rread : List Int → List (List Int) → Option (List (List Int))
  | [], p => some p
  | c :: r, p => (rstep p c).bind (rread r)
noncomputable abbrev datLL (xss : List (List Int)) : List Dat := xss.map fun xs => Dat.list (xs.map Dat.int)
/-- the pile between the turns -/
structure PD where
  rs : List Value
  os : List (Addr × Obj)
  xss : List (List Int)
  k : Nat
/-- what holds of it: the rest read upon it tells what the whole tells -/
noncomputable def PDok (ns : List Int) (pl : Addr) (i : Nat) (d : PD) : Prop :=
  rread (ns.drop i) d.xss = rread ns [] ∧ DatAll d.os d.rs (datLL d.xss) ∧ (∀ p ∈ d.os, p.1 ≠ pl) ∧ d.xss.length ≤ i ∧ d.xss.flatten.length ≤ i
theorem rread_next {ns : List Int} {i : Nat} {c : Int} {xss xss' : List (List Int)} (hcn : ns[i]? = some c) (h : rread (ns.drop i) xss = rread ns []) (e : rstep xss c = some xss') : rread (ns.drop (i + 1)) xss' = rread ns [] := by
  obtain ⟨hi, rfl⟩ := List.getElem?_eq_some_iff.mp hcn
  rw [← h, List.drop_eq_getElem_cons hi, rread, e]; rfl
theorem rread_none {ns : List Int} {i : Nat} {c : Int} {xss : List (List Int)} (hcn : ns[i]? = some c) (h : rread (ns.drop i) xss = rread ns []) (e : rstep xss c = none) : rread ns [] = none := by
  obtain ⟨hi, rfl⟩ := List.getElem?_eq_some_iff.mp hcn
  rw [← h, List.drop_eq_getElem_cons hi, rread, e]; rfl
theorem rstep_short {xss : List (List Int)} {c : Int} (hp : pun c = true) (h : xss.length < 2) : rstep xss c = none := by
  unfold rstep; rw [if_pos hp]
  match xss, h with
  | [], _ => rfl
  | [x], _ => rfl
theorem rstep_mark {x₀ : List (List Int)} {lo up : List Int} {c : Int} (hp : pun c = true) : rstep (x₀ ++ [lo] ++ [up]) c = some (x₀ ++ [lo ++ up ++ [c]]) := by
  unfold rstep; rw [if_pos hp]; simp
theorem rstep_aln {xss : List (List Int)} {c : Int} (hp : pun c = false) (ha : aln c = true) : rstep xss c = some (xss ++ [[c]]) := by
  unfold rstep; rw [if_neg (by simp [hp]), if_pos ha]
theorem rstep_none {c : Int} (hp : pun c = false) (ha : aln c = false) : rstep [] c = none := by
  unfold rstep; rw [if_neg (by simp [hp]), if_neg (by simp [ha])]; rfl
theorem rstep_other {x₀ : List (List Int)} {up : List Int} {c : Int} (hp : pun c = false) (ha : aln c = false) : rstep (x₀ ++ [up]) c = some (x₀ ++ [up ++ [c]]) := by
  unfold rstep; rw [if_neg (by simp [hp]), if_neg (by simp [ha])]; simp
theorem snoc_of {α : Type} : ∀ (l : List α), l ≠ [] → ∃ r x, l = r ++ [x] := fun l h => ⟨l.dropLast, l.getLast h, (List.dropLast_concat_getLast h).symm⟩
theorem dat_push {os : List (Addr × Obj)} {rs : List Value} {xss : List (List Int)} {vs : List Value} {xs : List Int} {a : Addr} {k : Nat} (hD : DatAll os rs (datLL xss)) (hI : IntsAre vs xs) :
    DatAll ((a, W.listOf vs.toArray k) :: os) (rs ++ [.ref a]) (datLL (xss ++ [xs])) := by
  have e : datLL (xss ++ [xs]) = datLL xss ++ [Dat.list (xs.map Dat.int)] := by simp [datLL]
  rw [e]
  exact (hD.mono fun p hp => .tail _ hp).append (.one (.list (.head _) (dat_ints hI)))
/-- the topmost of the pile -/
theorem top_of {os : List (Addr × Obj)} {rs : List Value} {xss : List (List Int)} (hD : DatAll os rs (datLL xss)) (h : xss ≠ []) :
    ∃ rs' xss' a vs n xs, rs = rs' ++ [.ref a] ∧ xss = xss' ++ [xs] ∧ DatAll os rs' (datLL xss') ∧ (a, W.listOf vs.toArray n) ∈ os ∧ IntsAre vs xs := by
  obtain ⟨xss', xs, rfl⟩ := snoc_of xss h
  have hne : rs ≠ [] := fun e => by
    subst e
    have := hD.length
    simp at this
  obtain ⟨rs', v, rfl⟩ := snoc_of rs hne
  obtain ⟨es, d, e1, hD', hd⟩ := hD.snoc
  have e2 : es ++ [d] = datLL xss' ++ [Dat.list (xs.map Dat.int)] := by rw [← e1]; simp [datLL]
  obtain ⟨e3, e4⟩ := List.append_inj' e2 rfl
  subst e3
  cases e4
  cases hd with
  | list hm hA => exact ⟨rs', xss', _, _, _, xs, rfl, rfl, hD', hm, ints_dat hA⟩
theorem read_end {h₀ h' : Heap} {L I pl a : Addr} {it : Obj} {m₀ m' : Str → Option Value} {s₁ : Shared} {tk k i : Nat} {all os : List (Addr × Obj)} {rs vs : List Value} {xss : List (List Int)} {xs ns : List Int} {names : List Str}
    (F : Fr h₀ L h' m') (N : News h₀ L h' all) (hI : (I, it) ∈ all) (h1 : (pl, W.listOf (rs ++ [Value.ref a]).toArray k) ∈ all) (h2 : (a, W.listOf vs.toArray 0) ∈ all) (h3 : ∀ p ∈ os, p ∈ all) (o1 : pl ≠ I) (o2 : a ≠ I) (o3 : ∀ p ∈ os, p.1 ≠ I)
    (hm : ∀ z, z ∉ names → m' z = m₀ z) (hnx : rread (ns.drop (i + 1)) (xss ++ [xs]) = rread ns []) (hD : DatAll os rs (datLL xss)) (hI' : IntsAre vs xs) (q1 : a ≠ pl) (q2 : ∀ p ∈ os, p.1 ≠ pl) (l3 : (xss ++ [xs]).length ≤ i + 1) (l4 : (xss ++ [xs]).flatten.length ≤ i + 1) :
    UnrEnd h₀ L s₁ I it (Turned names m₀ (fun d : PD => (pl, W.listOf d.rs.toArray d.k) :: d.os) (PDok ns pl (i + 1))) { s₁ with heap := h', toks := tk } :=
  turn_end ⟨rs ++ [.ref a], (a, W.listOf vs.toArray 0) :: os, xss ++ [xs], k⟩ F N hI (List.forall_mem_cons.mpr ⟨h1, List.forall_mem_cons.mpr ⟨h2, h3⟩⟩) (List.forall_mem_cons.mpr ⟨o1, List.forall_mem_cons.mpr ⟨o2, o3⟩⟩) hm
    ⟨hnx, dat_push hD hI', List.forall_mem_cons.mpr ⟨q1, q2⟩, l3, l4⟩
noncomputable def readTail : Option (List Stmt × Scope) :=
  match Challenge.pw_pg0127_01.main.body.find? (fun st => match st with | .FunctionDef n .. => n == "_law_read" | _ => false) with
  | some (.FunctionDef _ _ body _ _ _ sc _ _ _) => (match (body : List Stmt).drop 1 with | Stmt.For _ _ tb _ _ :: _ => some ((tb : List Stmt).drop 2, sc) | _ => none)
  | _ => none
noncomputable def ReadOut (g : Heap) (L : Addr) (m : Str → Option Value) (s : Shared) (pl : Addr) (xss : List (List Int)) (c : Int) (os rest : List (Addr × Obj)) (f : Flow) (s₂ : Shared) : Prop :=
  (rstep xss c = none ∧ f = .ret .none ∧ ∃ h' tk m', s₂ = { s with heap := h', toks := tk } ∧ Fr g L h' m') ∨
  (∃ x0 xs, rstep xss c = some (x0 ++ [xs]) ∧ f = .next ∧ ∃ h' tk m' rs0 a vs k', s₂ = { s with heap := h', toks := tk } ∧ Fr g L h' m' ∧ News g L h' ((pl, W.listOf (rs0 ++ [Value.ref a]).toArray k') :: (a, W.listOf vs.toArray 0) :: (os ++ rest)) ∧
    DatAll os rs0 (datLL x0) ∧ IntsAre vs xs ∧ a ≠ pl ∧ (∀ q ∈ os ++ rest, q.1 ≠ a) ∧ (x0 ++ [xs]).flatten.length ≤ xss.flatten.length + 1 ∧ (x0 ++ [xs]).length ≤ xss.length + 1 ∧ ∀ z, z ∉ (["upper", "lower"] : List Str) → m' z = m z)
theorem read_made_end {g h' : Heap} {L : Addr} {m m' : Str → Option Value} {s : Shared} {tk k : Nat} {pl a : Addr} {rs0 vs : List Value} {xss x0 : List (List Int)} {xs : List Int} {c : Int} {all os rest : List (Addr × Obj)}
    (e : rstep xss c = some (x0 ++ [xs])) (F : Fr g L h' m') (N : News g L h' all) (h1 : (pl, W.listOf (rs0 ++ [Value.ref a]).toArray k) ∈ all) (h2 : (a, W.listOf vs.toArray 0) ∈ all) (h3 : ∀ p ∈ os ++ rest, p ∈ all) (hD : DatAll os rs0 (datLL x0)) (hI : IntsAre vs xs) (n1 : pl ≠ a) (n2 : LtAll (os ++ rest) a)
    (l1 : (x0 ++ [xs]).flatten.length ≤ xss.flatten.length + 1) (l2 : (x0 ++ [xs]).length ≤ xss.length + 1) (hm : ∀ z, z ∉ (["upper", "lower"] : List Str) → m' z = m z) : ReadOut g L m s pl xss c os rest .next { s with heap := h', toks := tk } :=
  .inr ⟨x0, xs, e, rfl, h', tk, m', rs0, a, vs, k, rfl, F, List.forall_mem_cons.mpr ⟨N _ h1, List.forall_mem_cons.mpr ⟨N _ h2, fun p hp => N p (h3 p hp)⟩⟩, hD, hI, Ne.symm n1, fun q hq => Nat.ne_of_lt (n2 q hq), l1, l2, hm⟩
theorem read_tail (w : World) (mean : ExcName → Option Value) (mg mb : Str → Option Value) {body : List Stmt} {scope : Scope} (hdef : readTail = some (body, scope)) (v : Value) (c : Int) (hv : Thing v c) :
    ∀ (dp un : Nat) (gd : Option (List Code)) (cn : Str) (cs : Scope) (a : Addr) (ccd : Value) (cl : List (Str × Addr)) (outer : List Env) (base g : Heap) (L L' fa : Addr) (cdv : Value) (m : Str → Option Value) (s : Shared) (E : Value → Shared → Prop) (pl : Addr) (k : Nat) (rs : List Value) (xss : List (List Int)) (os rest : List (Addr × Obj)) (t : Tok),
    Below (ktrTop dp un gd cn cs L a ccd cl outer) base (envX cn cs L a ccd cl :: outer) g → (Mine.hd.heap_39 w.params).In g → Top topProg loose0 mean mg mb g → dp + 7 < recursionLimit → un + 8 * 7 < cLine →
    Fr g L' s.heap m → News g L' s.heap ((pl, W.listOf rs.toArray k) :: (os ++ rest)) → (∀ p ∈ os, p.1 ≠ pl) → (∀ p ∈ rest, p.1 ≠ pl) → DatAll os rs (datLL xss) → xss.length ≤ 63 → xss.flatten.length ≤ 63 →
    m (Str.ofString "thing") = some v → m (Str.ofString "code") = some (.int c t) → m (Str.ofString "pile") = some (.ref pl) →
    PassesOwn (model Challenge.rw_pg0127_01.row.prog w) ((ktrTop dp un gd cn cs L a ccd cl outer).deeper (envOf "_law_read" scope L' fa cdv)) (envOf "_law_read" scope L' fa cdv) E →
    wpAny (model Challenge.rw_pg0127_01.row.prog w) ((ktrTop dp un gd cn cs L a ccd cl outer).deeper (envOf "_law_read" scope L' fa cdv)) (execs body (envOf "_law_read" scope L' fa cdv)) (ReadOut g L' m s pl xss c os rest) E s := by
  have e0 : readTail = some (_, _) := rfl
  rw [e0] at hdef
  cases hdef
  clear e0
  w_on; k_fill
  intro dp un gd cn cs a ccd cl outer base g L L' fa cdv m s E pl k rs xss os rest t B' X' T' hd hu F N hos hrest hD hlen hlens m1 m2 m3 hE
  have em := lay_of [(Str.ofString "thing", v), (Str.ofString "code", .int c t), (Str.ofString "pile", .ref pl)] m m rfl (by
    intro p hp
    simp only [List.mem_cons, List.not_mem_nil, or_false] at hp
    rcases hp with rfl | rfl | rfl <;> assumption)
  have hmz : ∀ z, lay [(Str.ofString "thing", v), (Str.ofString "code", .int c t), (Str.ofString "pile", .ref pl)] m z = m z := fun z => (congrFun em z).symm
  rw [em] at F
  simp only [lay] at F
  simp only [lay] at hmz
  clear em
  have hrl : rs.length = xss.length := by rw [hD.length]; simp [datLL]
  have hsz0 : rs.length ≤ sizeLine := by rw [sizeLine_eq]; lia
  have hft0 : rs.length < 2 ^ 62 := by lia
  cases hp : pun c with
  | true =>
    by_cases h2 : xss.length < 2
    · have h2' : rs.length < 2 := by lia
      (try dsimp only); (try k_fold)
      k_steps
      exact .inl ⟨rstep_short hp h2, rfl, _, _, _, rfl, by assumption⟩
    · obtain ⟨rs1, xss1, aup, vup, nup, up, rfl, rfl, hD1, mup, iup⟩ := top_of hD (fun e => by subst e; exact h2 (by decide))
      obtain ⟨rs2, xss2, alo, vlo, nlo, lo, rfl, rfl, hD2, mlo, ilo⟩ := top_of hD1 (fun e => by subst e; exact h2 (by simp))
      have vlup := iup.length
      have vllo := ilo.length
      have h2' : 2 ≤ (rs2 ++ [Value.ref alo] ++ [Value.ref aup]).length := by simp
      have hz1 : (rs2 ++ [Value.ref alo]).length ≤ sizeLine := by simp at hsz0 ⊢; lia
      have hz2 : rs2.length ≤ sizeLine := by simp at hsz0 ⊢; lia
      have hz3 : vlo.length + vup.length ≤ sizeLine := by simp at hlens; rw [sizeLine_eq]; lia
      have hz4 : (vlo ++ vup).length + [Value.int c t].length ≤ sizeLine := by simp at hlens; rw [sizeLine_eq]; simp; lia
      have l1 : (xss2 ++ [lo ++ up ++ [c]]).flatten.length ≤ (xss2 ++ [lo] ++ [up]).flatten.length + 1 := by simp; lia
      have l2 : (xss2 ++ [lo ++ up ++ [c]]).length ≤ (xss2 ++ [lo] ++ [up]).length + 1 := by simp
      clear hlen hlens vlup vllo hrl
      (try dsimp only); (try k_fold)
      k_steps
      rename_i l9 _ F9 N9
      refine read_made_end (rstep_mark (x₀ := xss2) (lo := lo) (up := up) hp) F9 N9 (by k_mem) (.head _) (fun q hq => .tail _ (.tail _ (.tail _ (.tail _ (hq))))) hD2 ((ilo.append iup).append (.cons _ _ .nil)) (Nat.ne_of_lt (l9 (pl, _) (.tail _ (.tail _ (.head _))))) (fun q hq => l9 q (.tail _ (.tail _ (.tail _ (hq))))) l1 l2 ?_
      intro z hz
      simp only [List.mem_cons, List.not_mem_nil, or_false, not_or] at hz
      (try simp only [if_neg hz.1, if_neg hz.2])
      exact hmz z
  | false =>
    cases ha : aln c with
    | true =>
      have l1 : (xss ++ [[c]]).flatten.length ≤ xss.flatten.length + 1 := by simp
      have l2 : (xss ++ [[c]]).length ≤ xss.length + 1 := by simp
      clear hlen hlens hrl
      (try dsimp only); (try k_fold)
      k_steps
      rename_i l9 _ F9 N9
      refine read_made_end (rstep_aln hp ha) F9 N9 (by k_mem) (.head _) (fun q hq => .tail _ (.tail _ (hq))) hD (.cons _ _ .nil) (Nat.ne_of_lt (l9 (pl, _) (.head _))) (fun q hq => l9 q (.tail _ (hq))) l1 l2 ?_
      intro z hz
      simp only [List.mem_cons, List.not_mem_nil, or_false, not_or] at hz
      (try simp only [if_neg hz.1, if_neg hz.2])
      exact hmz z
    | false =>
      by_cases h2 : xss = []
      · subst h2
        have h2' : rs.length < 1 := by simp at hrl; simp [hrl]
        (try dsimp only); (try k_fold)
        k_steps
        exact .inl ⟨rstep_none hp ha, rfl, _, _, _, rfl, by assumption⟩
      · obtain ⟨rs1, xss1, aup, vup, nup, up, rfl, rfl, hD1, mup, iup⟩ := top_of hD h2
        have vlup := iup.length
        have h2' : 1 ≤ (rs1 ++ [Value.ref aup]).length := by simp
        have hz2 : rs1.length ≤ sizeLine := by simp at hsz0 ⊢; lia
        have hz4 : vup.length + [Value.int c t].length ≤ sizeLine := by simp at hlens; rw [sizeLine_eq]; simp; lia
        have l1 : (xss1 ++ [up ++ [c]]).flatten.length ≤ (xss1 ++ [up]).flatten.length + 1 := by simp; lia
        have l2 : (xss1 ++ [up ++ [c]]).length ≤ (xss1 ++ [up]).length + 1 := by simp
        clear hlen hlens vlup hrl
        (try dsimp only); (try k_fold)
        k_steps
        rename_i l9 _ F9 N9
        refine read_made_end (rstep_other (x₀ := xss1) (up := up) hp ha) F9 N9 (by k_mem) (.head _) (fun q hq => .tail _ (.tail _ (.tail _ (hq)))) hD1 (iup.append (.cons _ _ .nil)) (Nat.ne_of_lt (l9 (pl, _) (.tail _ (.head _)))) (fun q hq => l9 q (.tail _ (.tail _ (hq)))) l1 l2 ?_
        intro z hz
        simp only [List.mem_cons, List.not_mem_nil, or_false, not_or] at hz
        (try simp only [if_neg hz.1, if_neg hz.2])
        exact hmz z
theorem news_rot {h₀ h : Heap} {L : Addr} {x y : Addr × Obj} {r : List (Addr × Obj)} (N : News h₀ L h (x :: y :: r)) : News h₀ L h (y :: (r ++ [x])) := fun p hp => N p (by
  rcases List.mem_cons.mp hp with rfl | hp
  · exact .tail _ (.head _)
  rcases List.mem_append.mp hp with hp | hp
  · exact .tail _ (.tail _ hp)
  · rw [List.mem_singleton.mp hp]; exact .head _)
theorem read_step {h₀ : Heap} {L : Addr} {m m₀ : Str → Option Value} {s s₁ : Shared} {pl I : Addr} {it : Obj} {i : Nat} {ns : List Int} {c : Int} {d : PD} {f : Flow} {s₂ : Shared} {h : Heap} {tk : Nat} {Q : Flow → Shared → Prop} {names : List Str}
    (X : ReadOut h₀ L m s pl d.xss c d.os [(I, it)] f s₂) (es : s = { s₁ with heap := h, toks := tk }) (hd : PDok ns pl i d) (hcn : ns[i]? = some c) (h1 : ∀ p ∈ (pl, W.listOf d.rs.toArray d.k) :: d.os, p.1 ≠ I) (hup : Str.ofString "upper" ∈ names) (hlo : Str.ofString "lower" ∈ names)
    (hm : ∀ z, z ∉ names → m z = m₀ z) (hQ : rread ns [] = none → ∀ h' tk' m', Fr h₀ L h' m' → Q (.ret .none) { s₁ with heap := h', toks := tk' }) :
    UnrPost h₀ L s₁ I it (Turned names m₀ (fun d : PD => (pl, W.listOf d.rs.toArray d.k) :: d.os) (PDok ns pl (i + 1))) Q f s₂ := by
  subst es
  obtain ⟨hr, hD, hpl, hlen, hlens⟩ := hd
  obtain ⟨a1, a2⟩ := List.forall_mem_cons.mp h1
  rcases X with ⟨e, rfl, h', tk', m', rfl, F⟩ | ⟨x0, xs, e, rfl, h', tk', m', rs0, a, vs, k', rfl, F, N, hD', hI, n1, n2, l1, l2, hz⟩
  · exact hQ (rread_none hcn hr e) _ _ _ F
  · show UnrEnd _ _ _ _ _ _ _
    refine read_end F N (.tail _ (.tail _ (List.mem_append_right _ (.head _)))) (.head _) (.tail _ (.head _)) (fun p hp => .tail _ (.tail _ (List.mem_append_left _ hp))) a1 (Ne.symm (n2 _ (List.mem_append_right _ (.head _)))) a2 (fun z hzn => (hz z ?_).trans (hm z hzn)) (rread_next hcn hr e) hD' hI n1 hpl (by lia) (by lia)
    intro q
    simp only [List.mem_cons, List.not_mem_nil, or_false] at q
    rcases q with rfl | rfl
    · exact hzn hup
    · exact hzn hlo
section
theorem word18 : True := by
  k_with "execs cons" => (((with_reducible show wpAny _ _ (execs (Stmt.If (Expr.Call (Expr.Name (Str.ofString "ispunct") _) _ _ _) _ _ _ :: _) _) _ _ _); refine Hold.out ?_))
  exact True.intro
theorem c_read (w : World) (mean : ExcName → Option Value) (mg mb : Str → Option Value) (l : Addr) (vs : List Value) (ns : List Int) (sg : Bool) (hI : IntsAre vs ns) (hn : ns.length ≤ 63) (hc : ∀ c ∈ ns, 0 ≤ c ∧ c < 55296) :
    Tell w mean mg mb 133 7 [.ref l, .bool sg] (fun h => h.IsList l vs.toArray) (fun h r h' => match rread ns [] with
      | none => r = .none
      | some xss => ∃ n, Made h h' n ∧ DatIn n r (.list (datLL xss))) := by
  w_on; unfold Tell; k_fill
  intro dp un gd cn cs a' ccd cl outer A₀ base h₀ L m s Q E B F X T hk hpre hd hu hret
  k_dflt (walk_at "my enter")
  intro L' h₁ F' N' B' X' T'
  (try dsimp only); (try k_fold)
  k_steps
  show wpAny _ _ _ _ _ _
  refine list_head ["code", "thing", "upper", "lower"] (fun d : PD => W.listOf d.rs.toArray d.k) (fun d => d.os) (PDok ns) ⟨[], [], [], 0⟩ rfl (by assumption) (by assumption) (by assumption) ?_ ?_ ?_
  · exact ⟨by rw [List.drop_zero], .nil, (fun _ h => nomatch h), Nat.le_refl _, Nat.le_refl _⟩
  · rintro I hI0 i v hv u ⟨rs, os, xss, k⟩ ⟨hr, hD, hpl, hlen, hlens⟩ hoff it h tk F N
    simp only [ovr] at F
    dsimp only at hr hD hpl hlen hlens hoff N
    obtain ⟨hIpl, hIos⟩ := List.forall_mem_cons.mp hoff
    dsimp only at hIpl
    have hin : ∃ c t, v = .int c t ∧ ns[i]? = some c := by
      obtain ⟨n, t, e, q⟩ := IntsAre.at ‹IntsAre vs ns› i v hv
      exact ⟨n, t, e, q⟩
    obtain ⟨c, t, rfl, hcn⟩ := hin
    have hcb := hc c (List.mem_of_getElem? hcn)
    have hc0 := hcb.1
    have hc1 := hcb.2
    have hi63 : i < 63 := Nat.lt_of_lt_of_le (List.getElem?_eq_some_iff.mp hcn).1 hn
    have N' := news_rot N
    cases sg
    all_goals (
      (try dsimp only); (try k_fold)
      k_steps
      show wpAny _ _ _ _ _ _)
    all_goals (
      refine' wpAny_mono (read_tail w mean mg mb ?hdef _ c ?hv dp un gd cn cs a' ccd cl outer base s.heap L L' 133 _ _ _ _ _ k rs xss os [(I, it)] t B' X' T' hd hu ?hF ?hN hpl ?hr hD ?l1 ?l2 ?m1 ?m2 ?m3 ?hE) (fun f s₂ X => ?_) (fun _ _ e => e)
      case hdef => exact rfl
      case hF => assumption
      case hN => assumption
      case m1 => exact rfl
      case m2 => exact rfl
      case m3 => exact rfl
      case hv => first | exact thing_int | exact thing_str hc0
      case hr => (intro p hp; rw [List.mem_singleton.mp hp]; exact Ne.symm hIpl)
      case l1 => exact Nat.le_of_lt (Nat.lt_of_le_of_lt hlen hi63)
      case l2 => exact Nat.le_of_lt (Nat.lt_of_le_of_lt hlens hi63)
      case hE => passes_own
      refine read_step (d := ⟨rs, os, xss, k⟩) X rfl ⟨hr, hD, hpl, hlen, hlens⟩ hcn hoff (.tail _ (.tail _ (.head _))) (.tail _ (.tail _ (.tail _ (.head _)))) ?_ (fun hnone h' tk' m' F9 => hret _ _ _ F9.keep (by rw [hnone]))
      intro z hz
      simp only [List.mem_cons, List.not_mem_nil, or_false, not_or] at hz
      obtain ⟨z1, z2, z3, z4⟩ := hz
      simp only [if_neg z1, if_neg z2, if_neg z3, if_neg z4])
  · rintro u d ⟨hr, hD, hpl, hlen, hlens⟩ h tk F N
    simp only [ovr] at F
    have hlv : vs.length = ns.length := IntsAre.length (by assumption)
    rw [hlv, List.drop_length, rread] at hr
    (try dsimp only); (try k_fold)
    k_steps
    refine hret _ _ _ (Fr.keep (by assumption)) ?_
    rw [← hr]
    exact ⟨_, news_made N, .list (.head _) (hD.mono fun p hp => .tail _ hp)⟩
end
end
end
section
theorem word19 : True := by
  k_with_none
  k_with "my enter" => ((refine wpAny_call ?_; refine' enterP ?k1 ?k2 ?k3 ?k5 ?kA ?kF ?kK ?k6 ?k7 ?k8 ?k9 ?kB ?_ ?c2 ?c3 ?c4 ?c5; (case kA => exact rfl); (case kF => exact rfl); (case kK => assumption); (case k1 => k_asm); (case k2 => k_asm); (case k3 => k_asm); (case k5 => k_asm); (case k6 => k_is); (case k7 => k_is); (case k8 => ktr_room); (case k9 => exact BindsTo.of_eq rfl); (case c5 => decide); (case kB => exact locs rfl); (case c2 => exact rfl); (case c3 => exact rfl); (case c4 => exact rfl); k_whole))
  k_with "my use" => (((case k1 => k_asm); (case k2 => k_asm); (case k3 => k_asm); (case k4 => k_asm); (case k5 => k_asm); (case kK => first | exact rfl | assumption); (case kd => ktr_room); (case ku => ktr_units)))
  k_with "pyIter ref" => (refine Hold.out ?_)
  k_with "UnrEnd" => (refine Hold.out ?_)
  k_with "callWith" => (((with_reducible show wpAny _ _ (callWith _ (Prod.fst _) (Prod.snd _) _ _) _ _ _); dsimp only; (with_reducible refine callWith_method1 ?_ ?he ?hp); (case he => rfl); (case hp => rfl)))
  k_with "call builtin:list.append" => (((show wpAny _ _ (call (Value.builtin "list.append") [Value.ref _, _]) _ _ _); k_dflt (refine' append_list ?k1 ?k2 ?k3 ?z ?_; (case k1 => k_asm); (case k2 => k_asm); (case k3 => k_upd); (case z => walk_at "my size"); k_whole); intro _ _ _; (try dsimp only)))
  k_with "my size" => (first | with_reducible assumption | exact Nat.le_of_ble_eq_true rfl | (rw [sizeLine_eq]; omega))
  k_with "my fits" => (first | with_reducible assumption | omega)
  k_with "newList" => ((k_dflt (refine' newl_made ?k1 ?k2 ?_ ?z; (case k1 => k_asm); (case k2 => k_asm); (case z => walk_at "my size"); k_whole); intro _ _ _ _ _; (try dsimp only)))
  k_with "call type:reversed" => ((k_here; (with_reducible show wpAny _ _ (call (Value.type _) [Value.ref _]) _ _ _); k_dflt (refine' krv_reversed ?F ?N ?l ?_; (case F => k_asm); (case N => k_asm); (case l => is_list)); intro _ _ _ _ _))
  k_with "call builtin:list.reverse" => (((show wpAny _ _ (call (Value.builtin "list.reverse") [Value.ref _]) _ _ _); k_dflt (refine' rev_made ?k1 ?k2 ?k3 ?z ?_; (case k1 => k_asm); (case k2 => k_asm); (case k3 => k_upd); (case z => walk_at "my size"); k_whole); intro _ _ _; (try dsimp only)))
  k_with "call builtin:len" => (((show wpAny _ _ (call (Value.builtin "len") [Value.ref _]) _ _ _); k_dflt (refine' len_made ?k1 ?k2 ?k3 ?k4 ?_; (case k1 => k_asm); (case k2 => k_mem); (case k3 => (first | exact rfl | assumption)); (case k4 => first | decide | walk_at "my fits")); (try dsimp only)))
  k_with "call builtin:list.pop" => (((show wpAny _ _ (call (Value.builtin "list.pop") [Value.ref _]) _ _ _); k_dflt (refine' pop_made ?k1 ?k2 ?k3 ?z ?_; (case k1 => k_asm); (case k2 => k_asm); (case k3 => k_upd); (case z => walk_at "my size"); k_whole); intro _ _ _; (try dsimp only)))
  k_with "binaryOp Add ref ref" => (((with_reducible show wpAny _ _ (binaryOp _ (Value.ref _) (Value.ref _)) _ _ _); k_dflt (refine' add_made ?k1 ?k2 ?k3 ?k4 ?z ?_; (case k1 => k_asm); (case k2 => k_asm); (case k3 => k_mem); (case k4 => k_mem); (case z => walk_at "my size"); k_whole); intro _ _ _ _ _; (try dsimp only)))
  exact True.intro
theorem word20 : True := by
  k_with "call builtin:divmod" => ((refine divmod_N (by assumption) (by assumption) (by assumption) ?_ (Or.inl (by assumption)); intro _ _ _))
  exact True.intro
theorem c_div2n1n (w : World) (mean : ExcName → Option Value) (mg mb : Str → Option Value) (a b n : Int) (ta tb tn : Tok) (hb : b ≠ 0) (hI : ((Builtin.Int.intBits a : Nat) : Int) - n ≤ 4000) (hp : Builtin.divisionGoesByPylong a b = false) :
    Tell w mean mg mb 77 1 [.int a ta, .int b tb, .int n tn] (fun _ => True)
      (fun h r h' => ∃ l t1 t2, r = .ref l ∧ h.get? l = none ∧ h'.get? l = some { cls := .type "tuple", data := .seq #[.int (a.fdiv b) t1, .int (a.fmod b) t2] }) := by
  w_on; unfold Tell; k_fill
  intro dp un gd cn cs a' ccd cl outer A₀ base h₀ L m s Q E B F X T hk hpre hd hu hret
  k_dflt (walk_at "my enter")
  intro L' h₁ F' N' B' X' T'
  (try dsimp only); (try k_fold)
  k_steps
  rename_i h' F'' N''
  exact hret _ _ _ F''.keep ⟨_, _, _, rfl, (N'' _ (.head _)).2.2, N''.get (.head _)⟩
end
section
theorem word21 : True := by
  k_with_none
  k_with "my enter" => ((refine wpAny_call ?_; refine' enterP ?k1 ?k2 ?k3 ?k5 ?kA ?kF ?kK ?k6 ?k7 ?k8 ?k9 ?kB ?_ ?c2 ?c3 ?c4 ?c5; (case kA => exact rfl); (case kF => exact rfl); (case kK => assumption); (case k1 => k_asm); (case k2 => k_asm); (case k3 => k_asm); (case k5 => k_asm); (case k6 => k_is); (case k7 => k_is); (case k8 => ktr_room); (case k9 => exact BindsTo.of_eq rfl); (case c5 => decide); (case kB => exact locs rfl); (case c2 => exact rfl); (case c3 => exact rfl); (case c4 => exact rfl); k_whole))
  k_with "my use" => (((case k1 => k_asm); (case k2 => k_asm); (case k3 => k_asm); (case k4 => k_asm); (case k5 => k_asm); (case kK => first | exact rfl | assumption); (case kd => ktr_room); (case ku => ktr_units)))
  k_with "pyIter ref" => (refine Hold.out ?_)
  k_with "UnrEnd" => (refine Hold.out ?_)
  k_with "callWith" => (((with_reducible show wpAny _ _ (callWith _ (Prod.fst _) (Prod.snd _) _ _) _ _ _); dsimp only; (with_reducible refine callWith_method1 ?_ ?he ?hp); (case he => rfl); (case hp => rfl)))
  k_with "call builtin:list.append" => (((show wpAny _ _ (call (Value.builtin "list.append") [Value.ref _, _]) _ _ _); k_dflt (refine' append_list ?k1 ?k2 ?k3 ?z ?_; (case k1 => k_asm); (case k2 => k_asm); (case k3 => k_upd); (case z => walk_at "my size"); k_whole); intro _ _ _; (try dsimp only)))
  k_with "my size" => (first | with_reducible assumption | exact Nat.le_of_ble_eq_true rfl | (rw [sizeLine_eq]; omega))
  k_with "my fits" => (first | with_reducible assumption | omega)
  k_with "newList" => ((k_dflt (refine' newl_made ?k1 ?k2 ?_ ?z; (case k1 => k_asm); (case k2 => k_asm); (case z => walk_at "my size"); k_whole); intro _ _ _ _ _; (try dsimp only)))
  k_with "call type:reversed" => ((k_here; (with_reducible show wpAny _ _ (call (Value.type _) [Value.ref _]) _ _ _); k_dflt (refine' krv_reversed ?F ?N ?l ?_; (case F => k_asm); (case N => k_asm); (case l => is_list)); intro _ _ _ _ _))
  k_with "call builtin:list.reverse" => (((show wpAny _ _ (call (Value.builtin "list.reverse") [Value.ref _]) _ _ _); k_dflt (refine' rev_made ?k1 ?k2 ?k3 ?z ?_; (case k1 => k_asm); (case k2 => k_asm); (case k3 => k_upd); (case z => walk_at "my size"); k_whole); intro _ _ _; (try dsimp only)))
  k_with "call builtin:len" => (((show wpAny _ _ (call (Value.builtin "len") [Value.ref _]) _ _ _); k_dflt (refine' len_made ?k1 ?k2 ?k3 ?k4 ?_; (case k1 => k_asm); (case k2 => k_mem); (case k3 => (first | exact rfl | assumption)); (case k4 => first | decide | walk_at "my fits")); (try dsimp only)))
  k_with "call builtin:list.pop" => (((show wpAny _ _ (call (Value.builtin "list.pop") [Value.ref _]) _ _ _); k_dflt (refine' pop_made ?k1 ?k2 ?k3 ?z ?_; (case k1 => k_asm); (case k2 => k_asm); (case k3 => k_upd); (case z => walk_at "my size"); k_whole); intro _ _ _; (try dsimp only)))
  k_with "binaryOp Add ref ref" => (((with_reducible show wpAny _ _ (binaryOp _ (Value.ref _) (Value.ref _)) _ _ _); k_dflt (refine' add_made ?k1 ?k2 ?k3 ?k4 ?z ?_; (case k1 => k_asm); (case k2 => k_asm); (case k3 => k_mem); (case k4 => k_mem); (case z => walk_at "my size"); k_whole); intro _ _ _ _ _; (try dsimp only)))
  exact True.intro
theorem word22 : True := by
  k_with "subscriptTail" => (((with_reducible show wpAny _ _ (subscriptTail (Expr.List _ _) _ (Value.ref _) (Value.int _ _)) _ _ _); k_dflt (refine' item_menu ?k1 ?k2 ?k3 ?k4 ?k5 ?k6 ?k7 ?_; (case k1 => k_asm); (case k2 => k_mem); (case k3 => (repeat' (first | exact IntsAre.nil | refine' IntsAre.cons _ _ ?_))); (case k4 => decide); (case k5 => decide); (case k6 => decide +kernel); (case k7 => decide +kernel)); intro _ _ _; (try dsimp only)))
  k_with "subscriptTail" => (((with_reducible show wpAny _ _ (subscriptTail _ _ (Value.str _ _) (Value.int _ _)) _ _ _); (refine item_lit (by decide) (by decide) (by decide +kernel) (by decide +kernel) ?_); intro _ _ _; (try dsimp only)))
  k_with "call builtin:ord" => (((with_reducible show wpAny _ _ (call (Value.builtin "ord") [Value.str (PySem.Str.mk _) _]) _ _ _); (refine P.ord_of_char ?_); (try dsimp only)))
  exact True.intro
theorem line_second {h₀ h : Heap} {L : Addr} {a b : Addr × Obj} {r : List (Addr × Obj)} (N : News h₀ L h (a :: b :: r)) : News h₀ L h (b :: a :: r) := fun p hp => N p (by
  rcases List.mem_cons.mp hp with rfl | hp
  · exact .tail _ (.head _)
  rcases List.mem_cons.mp hp with rfl | hp
  · exact .head _
  · exact .tail _ (.tail _ hp))
noncomputable def lineTail : Option (List Stmt × Scope) :=
  match Challenge.pw_pg0127_01.main.body.find? (fun st => match st with | .FunctionDef n .. => n == "_law_line" | _ => false) with
  | some (.FunctionDef _ _ body _ _ _ sc _ _ _) => (match (body : List Stmt).drop 2 with | Stmt.For _ _ tb _ _ :: _ => some ((tb : List Stmt).drop 2, sc) | _ => none)
  | _ => none
noncomputable def LineOut (g : Heap) (L : Addr) (m : Str → Option Value) (s : Shared) (ln : Addr) (k : Nat) (vs : List Value) (rest : List (Addr × Obj)) (f : Flow) (s₂ : Shared) : Prop :=
  f = .next ∧ ∃ h' tk m' c t, s₂ = { s with heap := h', toks := tk } ∧ Fr g L h' m' ∧ News g L h' ((ln, W.listOf (vs ++ [Value.int c t]).toArray (k + 1)) :: rest) ∧ (0 ≤ c ∧ c < 55296) ∧ ∀ z, z ∉ (["kind", "more"] : List Str) → m' z = m z
theorem line_end {g h' : Heap} {L : Addr} {m m' : Str → Option Value} {s : Shared} {tk k : Nat} {ln : Addr} {vs : List Value} {c : Int} {t : Tok} {all rest : List (Addr × Obj)} (F : Fr g L h' m') (N : News g L h' all) (h1 : (ln, W.listOf (vs ++ [Value.int c t]).toArray (k + 1)) ∈ all) (h2 : ∀ p ∈ rest, p ∈ all) (hc : 0 ≤ c ∧ c < 55296)
    (hm : ∀ z, z ∉ (["kind", "more"] : List Str) → m' z = m z) : LineOut g L m s ln k vs rest .next { s with heap := h', toks := tk } :=
  ⟨rfl, h', tk, m', c, t, rfl, F, List.forall_mem_cons.mpr ⟨N _ h1, fun p hp => N p (h2 p hp)⟩, hc, hm⟩
theorem line_tail (w : World) (mean : ExcName → Option Value) (mg mb : Str → Option Value) {body : List Stmt} {scope : Scope} (hdef : lineTail = some (body, scope)) (x : Int) :
    ∀ (A : Around) (fa : Addr) (cdv : Value) (g : Heap) (L' : Addr) (m : Str → Option Value) (s : Shared) (E : Value → Shared → Prop) (ln : Addr) (k : Nat) (vs : List Value) (rest : List (Addr × Obj)) (t : Tok),
    (Mine.hd.heap_39 w.params).In g → Top topProg loose0 mean mg mb g → Fr g L' s.heap m → News g L' s.heap ((ln, W.listOf vs.toArray k) :: rest) → (∀ p ∈ rest, p.1 ≠ ln) → vs.length ≤ 63 →
    m (Str.ofString "x") = some (.int x t) → m (Str.ofString "line") = some (.ref ln) →
    wpAny (model Challenge.rw_pg0127_01.row.prog w) (A.deeper (envOf "_law_line" scope L' fa cdv)) (execs body (envOf "_law_line" scope L' fa cdv)) (LineOut g L' m s ln k vs rest) E s := by
  have e0 : lineTail = some (_, _) := rfl
  rw [e0] at hdef
  cases hdef
  clear e0
  w_on; k_fill
  intro A fa cdv g L' m s E ln k vs rest t X' T' F N hrest hvs m1 m2
  have em := lay_of [(Str.ofString "x", .int x t), (Str.ofString "line", .ref ln)] m m rfl (by
    intro p hp
    simp only [List.mem_cons, List.not_mem_nil, or_false] at hp
    rcases hp with rfl | rfl <;> assumption)
  have hmz : ∀ z, lay [(Str.ofString "x", .int x t), (Str.ofString "line", .ref ln)] m z = m z := fun z => (congrFun em z).symm
  rw [em] at F
  simp only [lay] at F
  simp only [lay] at hmz
  clear em
  have hsz : vs.length ≤ sizeLine := by rw [sizeLine_eq]; lia
  (try dsimp only); (try k_fold)
  k_steps
  all_goals (
    refine line_end (by assumption) (by assumption) (by k_mem) ?h2 ?hc ?hm
    case h2 => first | exact fun p hp => .tail _ hp | exact fun p hp => .tail _ (.tail _ hp)
    case hc => first | exact ⟨fm_ge _ (by decide), fm_lt _ (by decide)⟩ | assumption | exact ⟨Int.natCast_nonneg _, Int.ofNat_lt.mpr (by assumption)⟩
    case hm =>
      intro z hz
      simp only [List.mem_cons, List.not_mem_nil, or_false, not_or] at hz
      simp only [if_neg hz.1, if_neg hz.2]
      exact hmz z)
theorem line_step {h₀ : Heap} {L : Addr} {m m₀ : Str → Option Value} {s s₁ : Shared} {ln I : Addr} {o0 it : Obj} {i : Nat} {d : Ls} {rest : List (Addr × Obj)} {f : Flow} {s₂ : Shared} {h : Heap} {tk : Nat} {Q : Flow → Shared → Prop} {names : List Str}
    (X : LineOut h₀ L m s ln d.k d.vs ((I, it) :: rest) f s₂) (es : s = { s₁ with heap := h, toks := tk }) (hd : IntsAre d.vs d.ns ∧ d.ns.length = i ∧ ∀ c ∈ d.ns, 0 ≤ c ∧ c < 55296) (h1 : ∀ p ∈ (ln, o0) :: rest, p.1 < I) (hk : Str.ofString "kind" ∈ names) (hmo : Str.ofString "more" ∈ names)
    (hm : ∀ z, z ∉ names → m z = m₀ z) : UnrPost h₀ L s₁ I it (Turned names m₀ (fun d : Ls => (ln, W.listOf d.vs.toArray d.k) :: rest) (fun d : Ls => IntsAre d.vs d.ns ∧ d.ns.length = i + 1 ∧ ∀ c ∈ d.ns, 0 ≤ c ∧ c < 55296)) Q f s₂ := by
  subst es
  obtain ⟨hI1, hl1, hc1⟩ := hd
  obtain ⟨rfl, h', tk', m', c, t, rfl, F, N, hc, hz⟩ := X
  show UnrEnd _ _ _ _ _ _ _
  refine turn_end ⟨d.vs ++ [.int c t], d.ns ++ [c], d.k + 1⟩ F N (.tail _ (.head _)) (List.forall_mem_cons.mpr ⟨.head _, fun p hp => .tail _ (.tail _ hp)⟩) (off_head h1) (fun z hzn => (hz z ?_).trans (hm z hzn)) ⟨hI1.append (.cons _ _ .nil), by simp [hl1], fun x hx => ?_⟩
  · intro q
    simp only [List.mem_cons, List.not_mem_nil, or_false] at q
    rcases q with rfl | rfl
    · exact hzn hk
    · exact hzn hmo
  · rcases List.mem_append.mp hx with hx | hx
    · exact hc1 x hx
    · rw [List.mem_singleton.mp hx]; exact hc
section
theorem word23 : True := by
  k_with "execs cons" => (((with_reducible show wpAny _ _ (execs (Stmt.Assign [Expr.Name (Str.ofString "kind") _] _ _ :: _) _) _ _ _); refine Hold.out ?_))
  exact True.intro
theorem c_line (w : World) (mean : ExcName → Option Value) (mg mb : Str → Option Value) (l : Addr) (vs : List Value) (ns : List Int) (hI : IntsAre vs ns) (hn : ns.length ≤ 63) :
    Tell w mean mg mb 119 1 [.ref l] (fun h => h.IsList l vs.toArray) (fun h r h' => ∃ l' vs' cs, r = .ref l' ∧ h.get? l' = none ∧ (∃ k, h'.get? l' = some (W.listOf vs'.toArray k)) ∧ IntsAre vs' cs ∧ cs.length = 7 ∧ ∀ c ∈ cs, 0 ≤ c ∧ c < 55296) := by
  w_on; unfold Tell; k_fill
  intro dp un gd cn cs a' ccd cl outer A₀ base h₀ L m s Q E B F X T hk hpre hd hu hret
  k_dflt (walk_at "my enter")
  intro L' h₁ F' N' B' X' T'
  (try dsimp only); (try k_fold)
  k_steps
  show wpAny _ _ _ _ _ _
  refine range_head (n := 7) ["place", "x", "kind", "more"] (fun d : Ls => W.listOf d.vs.toArray d.k) (fun i d => IntsAre d.vs d.ns ∧ d.ns.length = i ∧ ∀ c ∈ d.ns, 0 ≤ c ∧ c < 55296) ⟨[], [], 0⟩ rfl (by assumption) (by decide +kernel) (by decide +kernel) (by assumption) (by assumption) ?_ ?_ ?_
  · exact ⟨.nil, rfl, fun _ h => nomatch h⟩
  · rintro I hI i hi u d ⟨hI1, hl1, hc1⟩ t h tk F N
    have hI0 := hI
    (try k_lt hI)
    have hsz : d.vs.length = i := hI1.length.trans hl1
    simp only [ovr] at F; dsimp only at N
    (try dsimp only); (try k_fold)
    k_steps
    all_goals (
      show wpAny _ _ _ _ _ _
      refine' wpAny_mono (line_tail w mean mg mb ?hdef _ (ktrTop dp un gd cn cs L a' ccd cl outer) 119 _ s.heap L' _ _ _ _ d.k d.vs ((I, _) :: _) _ X' T' ?hF (line_second ?hN) ?hr ?hl ?m1 ?m2) (fun f s₂ X => ?_) (fun _ _ e => e)
      case hdef => exact rfl
      case hF => assumption
      case hN => assumption
      case m1 => exact rfl
      case m2 => exact rfl
      case hr => exact List.forall_mem_cons.mpr ⟨Nat.ne_of_gt (hI0 _ (.head _)), by k_all⟩
      case hl => lia
      refine line_step X rfl ⟨hI1, hl1, hc1⟩ hI0 (.tail _ (.tail _ (.head _))) (.tail _ (.tail _ (.tail _ (.head _)))) ?_
      intro z hz
      simp only [List.mem_cons, List.not_mem_nil, or_false, not_or] at hz
      obtain ⟨z1, z2, z3, z4⟩ := hz
      simp only [if_neg z1, if_neg z2, if_neg z3, if_neg z4])
  · rintro u d ⟨hI1, hl1, hc1⟩ h tk F N
    simp only [ovr] at F
    (try dsimp only); (try k_fold)
    k_steps
    exact hret _ _ _ (Fr.keep (by assumption)) ⟨_, _, _, rfl, (N _ (.head _)).2.2, ⟨_, N.get (.head _)⟩, hI1, hl1, hc1⟩
end
end
section
section
theorem word24 : True := by
  k_with_none
  k_with "my enter" => ((refine wpAny_call ?_; refine' enterP ?k1 ?k2 ?k3 ?k5 ?kA ?kF ?kK ?k6 ?k7 ?k8 ?k9 ?kB ?_ ?c2 ?c3 ?c4 ?c5; (case kA => exact rfl); (case kF => exact rfl); (case kK => assumption); (case k1 => k_asm); (case k2 => k_asm); (case k3 => k_asm); (case k5 => k_asm); (case k6 => k_is); (case k7 => k_is); (case k8 => ktr_room); (case k9 => exact BindsTo.of_eq rfl); (case c5 => decide); (case kB => exact locs rfl); (case c2 => exact rfl); (case c3 => exact rfl); (case c4 => exact rfl); k_whole))
  k_with "my use" => (((case k1 => k_asm); (case k2 => k_asm); (case k3 => k_asm); (case k4 => k_asm); (case k5 => k_asm); (case kK => first | exact rfl | assumption); (case kd => ktr_room); (case ku => ktr_units)))
  k_with "pyIter ref" => (refine Hold.out ?_)
  k_with "UnrEnd" => (refine Hold.out ?_)
  k_with "callWith" => (((with_reducible show wpAny _ _ (callWith _ (Prod.fst _) (Prod.snd _) _ _) _ _ _); dsimp only; (with_reducible refine callWith_method1 ?_ ?he ?hp); (case he => rfl); (case hp => rfl)))
  k_with "call builtin:list.append" => (((show wpAny _ _ (call (Value.builtin "list.append") [Value.ref _, _]) _ _ _); k_dflt (refine' append_list ?k1 ?k2 ?k3 ?z ?_; (case k1 => k_asm); (case k2 => k_asm); (case k3 => k_upd); (case z => walk_at "my size"); k_whole); intro _ _ _; (try dsimp only)))
  k_with "my size" => (first | with_reducible assumption | exact Nat.le_of_ble_eq_true rfl | (rw [sizeLine_eq]; omega))
  k_with "my fits" => (first | with_reducible assumption | omega)
  k_with "newList" => ((k_dflt (refine' newl_made ?k1 ?k2 ?_ ?z; (case k1 => k_asm); (case k2 => k_asm); (case z => walk_at "my size"); k_whole); intro _ _ _ _ _; (try dsimp only)))
  k_with "call type:reversed" => ((k_here; (with_reducible show wpAny _ _ (call (Value.type _) [Value.ref _]) _ _ _); k_dflt (refine' krv_reversed ?F ?N ?l ?_; (case F => k_asm); (case N => k_asm); (case l => is_list)); intro _ _ _ _ _))
  k_with "call builtin:list.reverse" => (((show wpAny _ _ (call (Value.builtin "list.reverse") [Value.ref _]) _ _ _); k_dflt (refine' rev_made ?k1 ?k2 ?k3 ?z ?_; (case k1 => k_asm); (case k2 => k_asm); (case k3 => k_upd); (case z => walk_at "my size"); k_whole); intro _ _ _; (try dsimp only)))
  k_with "call builtin:len" => (((show wpAny _ _ (call (Value.builtin "len") [Value.ref _]) _ _ _); k_dflt (refine' len_made ?k1 ?k2 ?k3 ?k4 ?_; (case k1 => k_asm); (case k2 => k_mem); (case k3 => (first | exact rfl | assumption)); (case k4 => first | decide | walk_at "my fits")); (try dsimp only)))
  k_with "call builtin:list.pop" => (((show wpAny _ _ (call (Value.builtin "list.pop") [Value.ref _]) _ _ _); k_dflt (refine' pop_made ?k1 ?k2 ?k3 ?z ?_; (case k1 => k_asm); (case k2 => k_asm); (case k3 => k_upd); (case z => walk_at "my size"); k_whole); intro _ _ _; (try dsimp only)))
  k_with "binaryOp Add ref ref" => (((with_reducible show wpAny _ _ (binaryOp _ (Value.ref _) (Value.ref _)) _ _ _); k_dflt (refine' add_made ?k1 ?k2 ?k3 ?k4 ?z ?_; (case k1 => k_asm); (case k2 => k_asm); (case k3 => k_mem); (case k4 => k_mem); (case z => walk_at "my size"); k_whole); intro _ _ _ _ _; (try dsimp only)))
  k_with "my enterT" => ((refine wpAny_call ?_; refine' enterT ?k1 ?k2 ?k3 ?kO ?k5 ?kA ?kF ?kK ?k6 ?k7 ?k8 ?k9 ?kB ?_ ?c2 ?c3 ?c4 ?c5; (case kA => exact rfl); (case kF => exact rfl); (case kK => assumption); (case k1 => k_asm); (case k2 => k_asm); (case k3 => k_asm); (case kO => assumption); (case k5 => k_asm); (case k6 => k_is); (case k7 => k_is); (case k8 => ktr_room); (case k9 => exact BindsTo.of_eq rfl); (case c5 => decide); (case kB => exact locs rfl); (case c2 => exact rfl); (case c3 => exact rfl); (case c4 => exact rfl); k_whole))
  exact True.intro
/-- one step of the long division -/
theorem dm_step {n : Nat} {b r c : Int} (b0 : 0 < b) (r0 : 0 ≤ r) (r1 : r < b) (c0 : 0 ≤ c) (c1 : c < 2 ^ n) :
    0 ≤ r * 2 ^ n + c ∧ 0 ≤ (r * 2 ^ n + c).fdiv b ∧ (r * 2 ^ n + c).fdiv b < 2 ^ n ∧ 0 ≤ (r * 2 ^ n + c).fmod b ∧ (r * 2 ^ n + c).fmod b < b ∧ (r * 2 ^ n + c).fdiv b * b + (r * 2 ^ n + c).fmod b = r * 2 ^ n + c := by
  have hp : (0 : Int) < 2 ^ n := Int.pow_pos (by decide)
  generalize (2 : Int) ^ n = P at *
  have hx : 0 ≤ r * P + c := by have := Int.mul_nonneg r0 (Int.le_of_lt hp); lia
  rw [Int.fdiv_eq_ediv_of_nonneg _ (Int.le_of_lt b0), Int.fmod_eq_emod_of_nonneg _ (Int.le_of_lt b0)]
  refine ⟨hx, Int.ediv_nonneg hx (Int.le_of_lt b0), ?_, Int.emod_nonneg _ (Int.ne_of_gt b0), Int.emod_lt_of_pos _ b0, ?_⟩
  · refine Int.ediv_lt_of_lt_mul b0 ?_
    have h1 : (r + 1) * P ≤ b * P := Int.mul_le_mul_of_nonneg_right (by lia) (Int.le_of_lt hp)
    rw [Int.add_mul, Int.one_mul] at h1
    rw [Int.mul_comm P b]
    lia
  · have := Int.emod_add_mul_ediv (r * P + c) b
    rw [Int.mul_comm b] at this
    lia
theorem dm_bits {n : Nat} {b r c : Int} (hn : n ≤ 2 ^ 10) (b0 : 0 < b) (bN : b < 2 ^ n) (r0 : 0 ≤ r) (r1 : r < b) (c0 : 0 ≤ c) (c1 : c < 2 ^ n) : ((Builtin.Int.intBits (r * 2 ^ n + c) : Nat) : Int) - (n : Int) ≤ 4000 := by
  have h1 : Builtin.Int.intBits (r * 2 ^ n + c) ≤ n + n := by
    refine intBits_le_iff.mpr ?_
    have hx := (dm_step (n := n) b0 r0 r1 c0 c1).1
    have h2 : r * 2 ^ n + c < 2 ^ n * 2 ^ n := by
      have hp : (0 : Int) < 2 ^ n := Int.pow_pos (by decide)
      generalize (2 : Int) ^ n = P at *
      have h3 : (r + 1) * P ≤ P * P := Int.mul_le_mul_of_nonneg_right (by lia) (by lia)
      rw [Int.add_mul, Int.one_mul] at h3
      lia
    rw [← Int.pow_add] at h2
    have h4 : (((r * 2 ^ n + c).natAbs : Nat) : Int) < ((2 ^ (n + n) : Nat) : Int) := by rw [Int.natAbs_of_nonneg hx]; push_cast; exact h2
    exact_mod_cast h4
  lia
theorem bits_lt {x : Int} {k : Nat} (x0 : 0 ≤ x) (h : x < 2 ^ k) : Builtin.Int.intBits x ≤ k := intBits_le_iff.mpr (by
  have h2 : ((x.natAbs : Nat) : Int) < ((2 ^ k : Nat) : Int) := by rw [Int.natAbs_of_nonneg x0]; push_cast; exact h
  exact_mod_cast h2)
theorem lt_bits {x : Int} {k : Nat} (x0 : 0 ≤ x) (h : Builtin.Int.intBits x ≤ k) : x < 2 ^ k := by
  have h2 := intBits_le_iff.mp h
  have h5 : ((x.natAbs : Nat) : Int) < ((2 ^ k : Nat) : Int) := by exact_mod_cast h2
  rw [Int.natAbs_of_nonneg x0] at h5
  push_cast at h5; exact h5
theorem dig_63 {x : Int} {n : Nat} (x0 : 0 ≤ x) (hn0 : 0 < n) (hx : x < 2 ^ (63 * n)) : (Builtin.Int.intBits x + n - 1) / n ≤ 63 := by
  have hb := bits_lt x0 hx
  have : (Builtin.Int.intBits x + n - 1) / n < 64 := Nat.div_lt_of_lt_mul (by lia)
  lia
theorem dig_lt {x : Int} {n : Nat} (x0 : 0 ≤ x) (hn0 : 0 < n) : x < 2 ^ ((Builtin.Int.intBits x + n - 1) / n * n) := lt_bits x0 (by
  have h3 := Nat.div_add_mod (Builtin.Int.intBits x + n - 1) n
  have h4 := Nat.mod_lt (Builtin.Int.intBits x + n - 1) hn0
  rw [Nat.mul_comm] at h3
  lia)
theorem dig_all {x : Int} {n : Nat} (x0 : 0 ≤ x) (hn0 : 0 < n) : dval n (digs n ((Builtin.Int.intBits x + n - 1) / n) x) = x := dval_digs n _ x x0 (dig_lt x0 hn0)
theorem dm_unique {a b q r : Int} (b0 : 0 < b) (r0 : 0 ≤ r) (r1 : r < b) (h : q * b + r = a) : q = a / b ∧ r = a % b := by
  have e : a = r + q * b := by lia
  subst e
  rw [Int.add_mul_ediv_right _ _ (Int.ne_of_gt b0), Int.ediv_eq_zero_of_lt r0 r1, Int.add_mul_emod_self_right, Int.emod_eq_of_lt r0 r1]
  lia
/-- the quotient's digits so far, the rest so far -/
structure QD where
  vs : List Value
  qn : List Int
  k : Nat
  r : Int
  t : Tok
noncomputable def QDok (n : Nat) (b : Int) (ns : List Int) (i : Nat) (d : QD) : Prop :=
  IntsAre d.vs d.qn ∧ d.qn.length = i ∧ 0 ≤ d.r ∧ d.r < b ∧ (∀ q ∈ d.qn, 0 ≤ q ∧ q < 2 ^ n) ∧ dval n d.qn.reverse * b + d.r = dval n (ns.drop (ns.length - i))
theorem QDok.next {n : Nat} {b c : Int} {ns : List Int} {i k' : Nat} {d : QD} {t1 t2 : Tok} (b0 : 0 < b) (hns : ∀ c ∈ ns, 0 ≤ c ∧ c < 2 ^ n) (h : QDok n b ns i d) (hc : ns.reverse[i]? = some c) :
    QDok n b ns (i + 1) ⟨d.vs ++ [.int ((d.r * 2 ^ n + c).fdiv b) t1], d.qn ++ [(d.r * 2 ^ n + c).fdiv b], k', (d.r * 2 ^ n + c).fmod b, t2⟩ := by
  obtain ⟨h1, h2, h3, h4, h5, h6⟩ := h
  have hcm : c ∈ ns := List.mem_reverse.mp (List.mem_of_getElem? hc)
  obtain ⟨x0, q0, q1, r0, r1, e⟩ := dm_step (n := n) b0 h3 h4 (hns c hcm).1 (hns c hcm).2
  refine ⟨h1.append (.cons _ _ .nil), by simp [h2], r0, r1, fun q hq => ?_, ?_⟩
  · rcases List.mem_append.mp hq with hq | hq
    · exact h5 q hq
    · rw [List.mem_singleton.mp hq]; exact ⟨q0, q1⟩
  · have hi : i < ns.length := by
      have := (List.getElem?_eq_some_iff.mp hc).1
      rwa [List.length_reverse] at this
    have hc2 : ns[ns.length - (i + 1)]? = some c := by
      rw [List.getElem?_reverse hi] at hc
      rw [← hc]; congr 1; lia
    obtain ⟨hj, hc3⟩ := List.getElem?_eq_some_iff.mp hc2
    have hd : ns.drop (ns.length - (i + 1)) = c :: ns.drop (ns.length - i) := by
      rw [List.drop_eq_getElem_cons hj, hc3]
      congr 2; lia
    rw [hd]
    dsimp only
    rw [List.reverse_append, List.reverse_singleton]
    show ((d.r * 2 ^ n + c).fdiv b + dval n d.qn.reverse * 2 ^ n) * b + (d.r * 2 ^ n + c).fmod b = c + dval n (ns.drop (ns.length - i)) * 2 ^ n
    rw [← h6, Int.add_mul, Int.add_mul]
    have e2 : dval n d.qn.reverse * 2 ^ n * b = dval n d.qn.reverse * b * 2 ^ n := by rw [Int.mul_assoc, Int.mul_assoc, Int.mul_comm b]
    rw [e2]
    lia
theorem ints_at_rev {vs : List Value} {ns : List Int} (hI : IntsAre vs ns) {i : Nat} {v : Value} (h : vs.reverse[i]? = some v) : ∃ c t, v = .int c t ∧ ns.reverse[i]? = some c := by
  have hl := hI.length
  have hi : i < vs.length := by
    have := (List.getElem?_eq_some_iff.mp h).1
    rwa [List.length_reverse] at this
  rw [List.getElem?_reverse hi] at h
  obtain ⟨n, t, e, q⟩ := IntsAre.at hI _ v h
  refine ⟨n, t, e, ?_⟩
  rw [List.getElem?_reverse (by lia), ← hl, q]
section
variable {prog : Program} {w : World} {A : Around} {E : Value → Shared → Prop} {s : Shared} {env : Env} {h₀ : Heap} {x : Str} {body : List Stmt} {Q : Flow → Shared → Prop}
/-- a loop over a made list from behind, one object of the ledger's head turned -/
theorem rev_headK {D : Type} {ax I ln : Addr} {lo : Obj} {vs : List Value} {n : Nat} {m₀ : Str → Option Value} {rest : List (Addr × Obj)} (names : List Str) (kn : D → List (Str × Value)) (obj : D → Obj) (P : Nat → D → Prop) (d₀ : D)
    (hh : A.handled = none) (F : Fr h₀ env.locals s.heap m₀) (N : News h₀ env.locals s.heap ((I, revObj ax ((vs.length : Int) - 1)) :: (ln, obj d₀) :: rest)) (hof : ∀ p ∈ (ln, obj d₀) :: rest, p.1 ≠ I) (hlp : (ax, lo) ∈ rest) (hc : lo.cls = .type "list") (hd : lo.data = .seq vs.toArray n)
    (hk0 : ∀ p ∈ kn d₀, m₀ p.1 = some p.2) (h0 : P 0 d₀)
    (turn : ∀ i v, vs.reverse[i]? = some v → ∀ u d, P i d → ∀ it h tk, Fr h₀ env.locals h (fun y => if y = x then some v else lay (kn d) (ovr names u m₀) y) →
      News h₀ env.locals h ((I, it) :: (ln, obj d) :: rest) →
      wpAny (model prog w) A (execs body env) (UnrPost h₀ env.locals { s with heap := h, toks := tk } I it (TurnedK names m₀ kn (fun d => (ln, obj d) :: rest) (P (i + 1))) Q) E { s with heap := h, toks := tk })
    (done : ∀ u d, P vs.length d → ∀ h tk, Fr h₀ env.locals h (lay (kn d) (ovr names u m₀)) → News h₀ env.locals h ((ln, obj d) :: rest) → Q .next { s with heap := h, toks := tk }) :
    wpAny (model prog w) A (pyIter (.ref I)) (fun it s₂ => LoopAtV prog w A h₀ env x body Q E it s₂) E s :=
  rev_dataK names kn (fun d => (ln, obj d) :: rest) P d₀ hh F N hof (fun _ => .tail _ hlp) hc hd hk0 h0 turn done
end
theorem ints_rev : ∀ {vs : List Value} {ns : List Int}, IntsAre vs ns → IntsAre vs.reverse ns.reverse
  | _, _, .nil => .nil
  | _, _, .cons n t r => by
    rw [List.reverse_cons, List.reverse_cons]
    exact (ints_rev r).append (.cons n t .nil)
section
theorem word25 : True := by
  k_with "call ref" => (refine Hold.out ?_)
  k_with "binaryOp LShift int int" => (((refine r_shl (by assumption) (by assumption) (by assumption) ?_); (try dsimp only)))
  exact True.intro
theorem c_dmp (w : World) (mean : ExcName → Option Value) (mg mb : Str → Option Value) (a b : Int) (ta tb : Tok) (a0 : 0 ≤ a) (b0 : 0 < b) (hn0 : 0 < Builtin.Int.intBits b) (hn : Builtin.Int.intBits b ≤ 2 ^ 10) (ha : a < 2 ^ (63 * Builtin.Int.intBits b)) :
    TellT w mean mg mb 105 72 [.int a ta, .int b tb] (fun _ => True) (fun h r h' => ∃ l t1 t2, r = .ref l ∧ h.get? l = none ∧ h'.get? l = some { cls := .type "tuple", data := .seq #[.int (a / b) t1, .int (a % b) t2] }) := by
  w_on; unfold TellT; k_fill
  intro dp un gd cn cs a' ccd cl outer A₀ base h₀ L m s Q E B F X T hk hT hpre hd hu hret
  k_dflt (walk_at "my enterT")
  intro g L' h₁ ps qs F' N' G' B' X' T' O'
  dsimp only [tabL] at N'
  (try dsimp only); (try k_fold)
  k_steps
  show wpAny _ _ _ _ _ _
  refine tellT_use [] (c_i2d w mean mg mb a (Builtin.Int.intBits b) _ _ a0 hn0 hn ha) B' (by assumption) X' (by assumption) G' (List.forall_mem_nil _) T' rfl True.intro (by ktr_room) (by ktr_units) ?_
  rintro r h2 tk2 p2 q2 tc2 F2 N2 G2 k2 ⟨l, vs, k, rfl, en, e2, hI⟩
  rename_i Fa Na
  have l1 := tab_ne1 (top := []) Na en
  have l2 := tab_ne2 (top := []) Na en
  have N3 := made_news Fa N2 (made_one en e2)
  dsimp only [List.nil_append, List.cons_append] at N3
  clear N2 Fa Na
  have l3 := G2.off N3 (.head _) (fun y hy => .tail _ (.tail _ (.tail _ hy))) noCode_seq
  have hbN : b < 2 ^ Builtin.Int.intBits b := by
    have h1 := intBits_le_iff.mp (Nat.le_refl (Builtin.Int.intBits b))
    have h2 : ((b.natAbs : Nat) : Int) < ((2 ^ Builtin.Int.intBits b : Nat) : Int) := by exact_mod_cast h1
    rw [Int.natAbs_of_nonneg (Int.le_of_lt b0)] at h2
    push_cast at h2; exact h2
  have hpy : ∀ x, Builtin.divisionGoesByPylong x b = false := fun x => PyProof.noPylong_of_log2 (by
    have h1 := intBits_le_iff.mp hn
    have := (Nat.log2_lt (n := b.natAbs) (k := 2 ^ 10) (by lia)).mpr h1
    exact Nat.lt_of_lt_of_le this (by decide))
  generalize hN : Builtin.Int.intBits b = n at *
  have hds := digs_bound n ((Builtin.Int.intBits a + n - 1) / n) a
  have hdl := digs_length n ((Builtin.Int.intBits a + n - 1) / n) a
  have hdv : dval n (digs n ((Builtin.Int.intBits a + n - 1) / n) a) = a := dig_all a0 hn0
  have hd63 := dig_63 a0 hn0 ha
  rw [← hdl] at hd63
  generalize digs n ((Builtin.Int.intBits a + n - 1) / n) a = ns at *
  have hnz : n + n ≤ 2 ^ 20 := by lia
  (try dsimp only)
  k_steps
  show wpAny _ _ _ _ _ _
  refine' rev_headK ["a_digit", "q_digit", "r"] (fun d : QD => [("r", .int d.r d.t)]) (fun d => W.listOf d.vs.toArray d.k) (QDok n b ns) ⟨[], [], 0, 0, _⟩ rfl (by assumption) (by assumption) ?hof (.head _) rfl rfl ?hk0 ?h0 ?turn ?done
  case hk0 => (intro p hp; rw [List.mem_singleton.mp hp]; exact rfl)
  case hof => k_all
  case h0 => exact ⟨.nil, rfl, Int.le_refl _, b0, (fun _ h => nomatch h), by rw [Nat.sub_zero, List.drop_length]; simp [dval]⟩
  case turn =>
    rintro i v hv u d hP it h tk F N
    simp only [lay, ovr] at F
    obtain ⟨c, t, rfl, hc⟩ := ints_at_rev hI hv
    have hc2 := hds c (List.mem_reverse.mp (List.mem_of_getElem? hc))
    have hr0 := hP.2.2.1
    have hr1 : d.r < 2 ^ n := Int.lt_trans hP.2.2.2.1 hbN
    (try dsimp only); (try k_fold)
    k_steps
    show wpAny _ _ _ _ _ _
    have hxb : ((Builtin.Int.intBits (d.r * 2 ^ n + c) : Nat) : Int) - (n : Int) ≤ 4000 := dm_bits hn b0 hbN hP.2.2.1 hP.2.2.2.1 hc2.1 hc2.2
    refine tell_use (c_div2n1n w mean mg mb (d.r * 2 ^ n + c) b n _ _ _ (Int.ne_of_gt b0) hxb (hpy _)) B' (by assumption) X' (by assumption) T' rfl True.intro (by ktr_room) (by ktr_units) ?_
    rintro r h3 tk3 F3 N3 k3 ⟨lt, t1, t2, rfl, en3, e3⟩
    have N4 := made_news F N3 (made_one en3 e3)
    dsimp only [List.nil_append, List.cons_append] at N4
    have lN := made_ne N en3
    dsimp only [tabL] at lN N4
    clear N3 N F
    (try dsimp only)
    have hsz : d.vs.length ≤ sizeLine := by
      have h1 := hP.1.length
      have h2 := hP.2.1
      have h3 : i < vs.reverse.length := (List.getElem?_eq_some_iff.mp hv).1
      rw [List.length_reverse, hI.length] at h3
      rw [sizeLine_eq]; lia
    k_steps
    show UnrEnd _ _ _ _ _ _ _
    exact turn_endK ⟨_, _, _, _, _⟩ (by assumption) (by assumption) (by k_mem) (List.forall_mem_cons.mpr ⟨by k_mem, List.forall_mem_cons.mpr ⟨by k_mem, fun p hp => by k_mem⟩⟩) (by k_all) (by intro z hz; simp only [List.mem_cons, List.not_mem_nil, or_false, not_or] at hz; obtain ⟨z1, z2, z3⟩ := hz; simp only [if_neg z1, if_neg z2, if_neg z3]) (by intro p hp; rw [List.mem_singleton.mp hp]; exact rfl) (hP.next b0 hds hc)
  case done =>
    rintro u d hP h tk F N
    simp only [lay, ovr] at F
    have hvl : d.vs.length ≤ 63 := by
      have h1 := hP.1.length
      have h2 := hP.2.1
      have h3 := hI.length
      lia
    have hszd : d.vs.length ≤ sizeLine := by rw [sizeLine_eq]; lia
    dsimp only [tabL] at N
    (try dsimp only); (try k_fold)
    k_steps
    show wpAny _ _ _ _ _ _
    rename_i Fa Na
    refine tellT_use [(_, W.listOf d.vs.reverse.toArray d.k), (l, W.listOf vs.toArray k)] (c_d2i w mean mg mb _ d.vs.reverse d.qn.reverse n _ (ints_rev hP.1) (fun q hq => hP.2.2.2.2.1 q (List.mem_reverse.mp hq)) hn (by rw [List.length_reverse, ← hP.1.length]; exact hvl)) B' (by assumption) X' Na G2 ?hoff T' rfl (Na.isList (.head _)) (by ktr_room) (by ktr_units) ?_
    case hoff =>
      refine List.forall_mem_cons.mpr ⟨⟨Ne.symm (by k_ne), Ne.symm (by k_ne)⟩, List.forall_mem_cons.mpr ⟨⟨Ne.symm l1, Ne.symm l2⟩, List.forall_mem_nil _⟩⟩
    rintro r h4 tk4 p4 q4 tc4 F4 N4 G4 k4 ⟨t, rfl⟩
    dsimp only [List.nil_append, List.cons_append, tabL] at N4
    clear Na Fa
    (try dsimp only)
    k_steps
    rename_i Fz Nz l9
    obtain ⟨_, _, z1, z2, _⟩ := l9
    have ev : dval n d.qn.reverse = a / b ∧ d.r = a % b := by
      have h6 := hP.2.2.2.2.2
      rw [hI.length, Nat.sub_self, List.drop_zero, hdv] at h6
      exact dm_unique b0 hP.2.2.1 hP.2.2.2.1 h6
    rw [ev.1, ev.2] at Nz
    have kT := O'.back _ _ _ _ _ _ Fz Nz G4 fun y hy => .tail _ (.tail _ (.tail _ hy))
    exact hret _ _ _ kT.1 kT.2 ⟨_, _, _, rfl, O'.fresh _ (neN (by lia)) (neN (by lia)) (Nz _ (.head _)).2.2, Nz.get (.head _)⟩
end
end
section
theorem word26 : True := by
  k_with_none
  k_with "my enter" => ((refine wpAny_call ?_; refine' enterP ?k1 ?k2 ?k3 ?k5 ?kA ?kF ?kK ?k6 ?k7 ?k8 ?k9 ?kB ?_ ?c2 ?c3 ?c4 ?c5; (case kA => exact rfl); (case kF => exact rfl); (case kK => assumption); (case k1 => k_asm); (case k2 => k_asm); (case k3 => k_asm); (case k5 => k_asm); (case k6 => k_is); (case k7 => k_is); (case k8 => ktr_room); (case k9 => exact BindsTo.of_eq rfl); (case c5 => decide); (case kB => exact locs rfl); (case c2 => exact rfl); (case c3 => exact rfl); (case c4 => exact rfl); k_whole))
  k_with "my use" => (((case k1 => k_asm); (case k2 => k_asm); (case k3 => k_asm); (case k4 => k_asm); (case k5 => k_asm); (case kK => first | exact rfl | assumption); (case kd => ktr_room); (case ku => ktr_units)))
  k_with "pyIter ref" => (refine Hold.out ?_)
  k_with "UnrEnd" => (refine Hold.out ?_)
  k_with "callWith" => (((with_reducible show wpAny _ _ (callWith _ (Prod.fst _) (Prod.snd _) _ _) _ _ _); dsimp only; (with_reducible refine callWith_method1 ?_ ?he ?hp); (case he => rfl); (case hp => rfl)))
  k_with "call builtin:list.append" => (((show wpAny _ _ (call (Value.builtin "list.append") [Value.ref _, _]) _ _ _); k_dflt (refine' append_list ?k1 ?k2 ?k3 ?z ?_; (case k1 => k_asm); (case k2 => k_asm); (case k3 => k_upd); (case z => walk_at "my size"); k_whole); intro _ _ _; (try dsimp only)))
  k_with "my size" => (first | with_reducible assumption | exact Nat.le_of_ble_eq_true rfl | (rw [sizeLine_eq]; omega))
  k_with "my fits" => (first | with_reducible assumption | omega)
  k_with "newList" => ((k_dflt (refine' newl_made ?k1 ?k2 ?_ ?z; (case k1 => k_asm); (case k2 => k_asm); (case z => walk_at "my size"); k_whole); intro _ _ _ _ _; (try dsimp only)))
  k_with "call type:reversed" => ((k_here; (with_reducible show wpAny _ _ (call (Value.type _) [Value.ref _]) _ _ _); k_dflt (refine' krv_reversed ?F ?N ?l ?_; (case F => k_asm); (case N => k_asm); (case l => is_list)); intro _ _ _ _ _))
  k_with "call builtin:list.reverse" => (((show wpAny _ _ (call (Value.builtin "list.reverse") [Value.ref _]) _ _ _); k_dflt (refine' rev_made ?k1 ?k2 ?k3 ?z ?_; (case k1 => k_asm); (case k2 => k_asm); (case k3 => k_upd); (case z => walk_at "my size"); k_whole); intro _ _ _; (try dsimp only)))
  k_with "call builtin:len" => (((show wpAny _ _ (call (Value.builtin "len") [Value.ref _]) _ _ _); k_dflt (refine' len_made ?k1 ?k2 ?k3 ?k4 ?_; (case k1 => k_asm); (case k2 => k_mem); (case k3 => (first | exact rfl | assumption)); (case k4 => first | decide | walk_at "my fits")); (try dsimp only)))
  k_with "call builtin:list.pop" => (((show wpAny _ _ (call (Value.builtin "list.pop") [Value.ref _]) _ _ _); k_dflt (refine' pop_made ?k1 ?k2 ?k3 ?z ?_; (case k1 => k_asm); (case k2 => k_asm); (case k3 => k_upd); (case z => walk_at "my size"); k_whole); intro _ _ _; (try dsimp only)))
  k_with "binaryOp Add ref ref" => (((with_reducible show wpAny _ _ (binaryOp _ (Value.ref _) (Value.ref _)) _ _ _); k_dflt (refine' add_made ?k1 ?k2 ?k3 ?k4 ?z ?_; (case k1 => k_asm); (case k2 => k_asm); (case k3 => k_mem); (case k4 => k_mem); (case z => walk_at "my size"); k_whole); intro _ _ _ _ _; (try dsimp only)))
  k_with "my enterT" => ((refine wpAny_call ?_; refine' enterT ?k1 ?k2 ?k3 ?kO ?k5 ?kA ?kF ?kK ?k6 ?k7 ?k8 ?k9 ?kB ?_ ?c2 ?c3 ?c4 ?c5; (case kA => exact rfl); (case kF => exact rfl); (case kK => assumption); (case k1 => k_asm); (case k2 => k_asm); (case k3 => k_asm); (case kO => assumption); (case k5 => k_asm); (case k6 => k_is); (case k7 => k_is); (case k8 => ktr_room); (case k9 => exact BindsTo.of_eq rfl); (case c5 => decide); (case kB => exact locs rfl); (case c2 => exact rfl); (case c3 => exact rfl); (case c4 => exact rfl); k_whole))
  exact True.intro
theorem none_of {g h : Heap} {l : Addr} (k : ∀ b o, g.get? b = some o → h.get? b = some o) (e : h.get? l = none) : g.get? l = none := by
  cases q : g.get? l with
  | none => rfl
  | some o => rw [k _ _ q] at e; cases e
section
theorem word27 : True := by
  k_with "call ref" => (refine Hold.out ?_)
  exact True.intro
theorem c_idm (w : World) (mean : ExcName → Option Value) (mg mb : Str → Option Value) (a b : Int) (ta tb : Tok) (a0 : 0 ≤ a) (b0 : 0 < b) (hn0 : 0 < Builtin.Int.intBits b) (hn : Builtin.Int.intBits b ≤ 2 ^ 10) (ha : a < 2 ^ (63 * Builtin.Int.intBits b)) :
    TellT w mean mg mb 112 73 [.int a ta, .int b tb] (fun _ => True) (fun h r h' => ∃ l t1 t2, r = .ref l ∧ h.get? l = none ∧ h'.get? l = some { cls := .type "tuple", data := .seq #[.int (a / b) t1, .int (a % b) t2] }) := by
  have b1 : ¬ b < 0 := by lia
  have b2 : ¬ b = 0 := by lia
  have a1 : ¬ a < 0 := by lia
  w_on; unfold TellT; k_fill
  intro dp un gd cn cs a' ccd cl outer A₀ base h₀ L m s Q E B F X T hk hT hpre hd hu hret
  k_dflt (walk_at "my enterT")
  intro g L' h₁ ps qs F' N' G' B' X' T' O'
  dsimp only [tabL] at N'
  (try dsimp only); (try k_fold)
  k_steps
  · exact absurd (by assumption) b2
  show wpAny _ _ _ _ _ _
  refine tellT_use [] (c_dmp w mean mg mb a b _ _ a0 b0 hn0 hn ha) B' F' X' N' G' (List.forall_mem_nil _) T' rfl True.intro (by ktr_room) (by ktr_units) ?_
  rintro r h2 tk2 p2 q2 tc2 F2 N2 G2 k2 ⟨l, t1, t2, rfl, en, e2⟩
  have l1 := tab_ne1 (top := []) N' en
  have l2 := tab_ne2 (top := []) N' en
  have kT := O'.back _ _ _ _ _ _ F2 N2 G2 fun y hy => hy
  exact hret _ _ _ kT.1 kT.2 ⟨_, _, _, rfl, O'.fresh _ (Ne.symm l1) (Ne.symm l2) (none_of F'.keep en), e2⟩
end
end
end
section
theorem LtAll.hd {a : Nat} {b : Addr} {o : Obj} {r : List (Addr × Obj)} (h : LtAll ((b, o) :: r) a) : b ≠ a := Nat.ne_of_lt (h _ (.head _))
theorem LtAll.tl {a : Nat} {p : Addr × Obj} {r : List (Addr × Obj)} (h : LtAll (p :: r) a) : LtAll r a := fun q hq => h q (.tail _ hq)
theorem NeAll.hd {a b : Addr} {o : Obj} {r : List (Addr × Obj)} (h : NeAll ((b, o) :: r) a) : b ≠ a := h _ (.head _)
theorem NeAll.tl {a : Addr} {p : Addr × Obj} {r : List (Addr × Obj)} (h : NeAll (p :: r) a) : NeAll r a := fun q hq => h q (.tail _ hq)
section
variable {prog : Program} {w : World} {A : Around} {E : Value → Shared → Prop} {s : Shared}
/-- the last item of a made list of ints -/
theorem item_back {value slice : PySem.Expr} {h₀ : Heap} {L l : Addr} {news : List (Addr × Obj)} {vs : List Value} {ys : List Int} {x : Int} {kk : Nat} {u : Tok} {Q : Value → Shared → Prop}
    (N : News h₀ L s.heap news) (hm : (l, W.listOf vs.toArray kk) ∈ news) (hI : IntsAre vs (ys ++ [x])) (h : ∀ t, Q (.int x t) s)
    (hs : subscripted slice false (.ref l) (.int (-1) u) = operate [.ref l, .int (-1) u] (getItem (.ref l) (.int (-1) u)) := by with_unfolding_all rfl) :
    wpAny (model prog w) A (subscriptTail value slice (.ref l) (.int (-1) u)) Q E s := by
  have hl := N.isList hm
  have hlen := hI.length
  rw [List.length_append, List.length_singleton] at hlen
  obtain ⟨t, ht⟩ := hI.get ys.length x (by simp)
  have hz : (vs.toArray.size : Int) = (ys.length : Int) + 1 := by rw [List.size_toArray, hlen]; rfl
  refine tail_any hl.typeIs slot_list_getitem.lookup (wpAny_getItem_list_neg hl (by decide) (by rw [hz]; lia) (by decide) ?_ (h t)) hs
  have : ((-1 : Int) + vs.toArray.size).toNat = ys.length := by rw [hz]; lia
  rw [this]
  simpa using ht
end
/-- how many more letters than marks among the first k -/
noncomputable def cnt (ns : List Int) (k : Nat) : Int := ((ns.take k).map stp).sum
theorem cnt_zero (ns : List Int) : cnt ns 0 = 0 := rfl
theorem cnt_succ {ns : List Int} {i : Nat} {c : Int} (h : ns[i]? = some c) : cnt ns (i + 1) = cnt ns i + stp c := by
  unfold cnt
  obtain ⟨hi, rfl⟩ := List.getElem?_eq_some_iff.mp h
  rw [List.take_succ_eq_append_getElem hi, List.map_append, List.sum_append]
  simp
noncomputable abbrev cnts (ns : List Int) (i : Nat) : List Int := (List.range (i + 1)).map (cnt ns)
theorem cnts_succ (ns : List Int) (i : Nat) : cnts ns (i + 1) = cnts ns i ++ [cnt ns (i + 1)] := by
  unfold cnts; rw [List.range_succ, List.map_append]; rfl
theorem cnts_back (ns : List Int) (i : Nat) : cnts ns i = (List.range i).map (cnt ns) ++ [cnt ns i] := by
  unfold cnts; rw [List.range_succ, List.map_append]; rfl
theorem item_7 {prog : Program} {w : World} {A : Around} {E : Value → Shared → Prop} {s : Shared} {value slice : PySem.Expr} {h₀ : Heap} {L l : Addr} {news : List (Addr × Obj)} {vs : List Value} {ns : List Int} {kk : Nat} {u : Tok} {Q : Value → Shared → Prop}
    (N : News h₀ L s.heap news) (hm : (l, W.listOf vs.toArray kk) ∈ news) (hI : IntsAre vs (cnts ns 7)) (h : ∀ t, Q (.int (cnt ns 7) t) s)
    (hs : subscripted slice false (.ref l) (.int 7 u) = operate [.ref l, .int 7 u] (getItem (.ref l) (.int 7 u)) := by with_unfolding_all rfl) :
    wpAny (model prog w) A (subscriptTail value slice (.ref l) (.int 7 u)) Q E s :=
  item_at (N.isList hm) hI (by decide) (by simp) (by simp) (fun t => by
    have e : (cnts ns 7).getD (Int.toNat 7) 0 = cnt ns 7 := by simp [List.getD]
    rw [e]; exact h t) hs
/-- what holds behind a turn whose target is any name -/
noncomputable def TurnPost (h₀ : Heap) (L : Addr) (s₁ : Shared) (I : Addr) (it : Obj) (rest : (Str → Option Value) → List (Addr × Obj) → Prop) (f : Flow) (s₂ : Shared) : Prop := f = .next ∧ UnrEnd h₀ L s₁ I it rest s₂
section
variable {prog : Program} {w : World} {A : Around} {E : Value → Shared → Prop} {s : Shared} {env : Env} {h₀ : Heap} {x : Str} {px : Pos} {body : List Stmt} {Q : Flow → Shared → Prop}
/-- a loop over a range whose name is kept in a cell -/
theorem rangeT_dataK {D : Type} {r : Addr} {a₀ b₀ : Int} {t₀ u₀ v₀ : Tok} {n : Nat} {m₀ : Str → Option Value} (names : List Str) (kn : D → List (Str × Value)) (led : D → List (Addr × Obj)) (P : Nat → D → Prop) (d₀ : D)
    (hh : A.handled = none) (hr : IsRange s.heap r a₀ b₀ 1 t₀ u₀ v₀) (hsmall : Builtin.Range.small a₀ b₀ 1 = true) (hn : Builtin.Range.rangeSize a₀ b₀ 1 = (n : Int)) (F : Fr h₀ env.locals s.heap m₀) (N : News h₀ env.locals s.heap (led d₀))
    (hk0 : ∀ p ∈ kn d₀, m₀ p.1 = some p.2) (h0 : P 0 d₀)
    (turn : ∀ I : Addr, (∀ p ∈ led d₀, p.1 < I) → ∀ i, i < n → ∀ u d, P i d → (∀ p ∈ led d, p.1 ≠ I) → ∀ t (s₁ : Shared), Fr h₀ env.locals s₁.heap (lay (kn d) (ovr names u m₀)) →
      News h₀ env.locals s₁.heap ((I, itR (a₀ + ((i + 1 : Nat) : Int)) ((n : Int) - ((i + 1 : Nat) : Int))) :: led d) →
      wpAny (model prog w) A (storeName env x (.int (a₀ + (i : Int)) t)) (fun _ s₃ => wpAny (model prog w) A (execs body env) (TurnPost h₀ env.locals s₁ I (itR (a₀ + ((i + 1 : Nat) : Int)) ((n : Int) - ((i + 1 : Nat) : Int))) (TurnedK names m₀ kn led (P (i + 1)))) E s₃) E s₁)
    (done : ∀ u d, P n d → ∀ h tk, Fr h₀ env.locals h (lay (kn d) (ovr names u m₀)) → News h₀ env.locals h (led d) → Q .next { s with heap := h, toks := tk }) :
    wpAny (model prog w) A (pyIter (.ref r)) (fun it s₂ => LoopAtT prog w A h₀ env (.Name x px) body Q E it s₂) E s := by
  refine wpAny_pyIter_range hr hsmall ?_
  have W : Walks prog w A s.heap.objs.size [s.heap.objs.size] [s.heap.objs.size] n (fun i v => i < n ∧ ∃ t, v = .int (a₀ + i * 1) t)
      (fun i h => IsRangeIter h s.heap.objs.size (a₀ + (i : Nat) * 1) ((n : Int) - (i : Nat)) 1) := (Walks.range hh _ a₀ 1 n).bound
  have hnew := next_is_new F
  refine ⟨_, _, _, n, _, _, m₀, led d₀, fun i => TurnedK names m₀ kn led (P i), rfl, W, ?_, ?_, ?_, (by show IsRangeIter _ _ _ _ _; rw [hn]; simpa using Heap.get?_push_size _ rfl), F.push _, (fun p hp => ⟨Heap.get?_push_of_some _ (N p hp).1, (N p hp).2⟩), ?_, ⟨fun _ _ => rfl, d₀, hk0, rfl, h0⟩, ?_, ?_⟩
  · intro hm
    exact absurd F.ns.lt ((List.mem_singleton.mp hm) ▸ Nat.lt_irrefl _)
  · intro b hb
    rw [List.mem_singleton.mp hb]
    exact hnew
  · intro p hp hI
    exact absurd (Heap.lt_size (N p hp).1) ((List.mem_singleton.mp hI) ▸ Nat.lt_irrefl _)
  · intro i s' v Q' _ hQ'
    exact wpAny_pure hQ'
  · rintro i v m₁ news₁ s₁ own hin ⟨_, t, rfl⟩ ⟨hm, d, hk, rfl, hP⟩ hoff hown hget hall hst F₁ N₁
    have hst' : s₁.heap.get? s.heap.objs.size = some (itR (a₀ + ((i + 1 : Nat) : Int)) ((n : Int) - ((i + 1 : Nat) : Int))) := by
      have q : IsRangeIter s₁.heap s.heap.objs.size (a₀ + ((i + 1 : Nat) : Int) * 1) ((n : Int) - ((i + 1 : Nat) : Int)) 1 := hst
      rw [Int.mul_one] at q
      exact q
    have hmem := hall s.heap.objs.size (List.mem_singleton.mpr rfl) hnew _ hst'
    have e1 : a₀ + (i : Int) * 1 = a₀ + (i : Int) := by rw [Int.mul_one]
    rw [e1]
    rw [lay_of (kn d) (ovr names m₁ m₀) m₁ (ovr_of names m₀ m₁ hm) hk] at F₁
    have N₂ : News h₀ env.locals s₁.heap ((s.heap.objs.size, itR (a₀ + ((i + 1 : Nat) : Int)) ((n : Int) - ((i + 1 : Nat) : Int))) :: led d) := fun p hp => by
      rcases List.mem_cons.mp hp with rfl | hp
      · exact N₁ _ (List.mem_append_left _ hmem)
      · exact N₁ _ (List.mem_append_right _ hp)
    have hoff' : ∀ p ∈ led d, p.1 ≠ s.heap.objs.size := fun p hp e => hoff p hp (e ▸ List.mem_singleton.mpr rfl)
    refine wpAny_assign_Name (wpAny_mono (turn s.heap.objs.size (fun p hp => Heap.lt_size (N p hp).1) i hin m₁ d hP hoff' t s₁ F₁ N₂) (fun _ s₃ h₃ => wpAny_mono h₃ (fun f s₄ h₄ => ?_) fun _ _ e => e) fun _ _ e => e)
    obtain ⟨rfl, h', tk, m', news', rfl, F', N', off', J'⟩ := h₄
    refine ⟨rfl, h', tk, m', news', rfl, F', fun p hp => ?_, fun p hp e => off' p hp (List.mem_singleton.mp e), J'⟩
    rcases List.mem_append.mp hp with hp | hp
    · have h1 := List.mem_singleton.mp (hown p hp)
      have h2 := hget p hp
      rw [h1, hst'] at h2
      have h3 : p = (s.heap.objs.size, itR (a₀ + ((i + 1 : Nat) : Int)) ((n : Int) - ((i + 1 : Nat) : Int))) := Prod.ext h1 (Option.some.inj h2).symm
      rw [h3]; exact N' _ (.head _)
    · exact N' _ (.tail _ hp)
  · rintro h' tk m' news' F' N' _ ⟨hm, d, hk, rfl, hP⟩
    rw [lay_of (kn d) (ovr names m' m₀) m' (ovr_of names m₀ m' hm) hk] at F'
    exact done m' d hP h' tk F' N'
end
section
variable {prog : Program} {w : World} {A : Around} {E : Value → Shared → Prop} {s : Shared} {env : Env} {h₀ : Heap} {x : Str} {px : Pos} {body : List Stmt} {Q : Flow → Shared → Prop}
theorem rangeT_headK {D : Type} {ln : Addr} {r : Addr} {a₀ b₀ : Int} {t₀ u₀ v₀ : Tok} {n : Nat} {m₀ : Str → Option Value} (names : List Str) (kn : D → List (Str × Value)) (obj : D → Obj) (os : D → List (Addr × Obj)) (P : Nat → D → Prop) (d₀ : D)
    (hh : A.handled = none) (hr : IsRange s.heap r a₀ b₀ 1 t₀ u₀ v₀) (hsmall : Builtin.Range.small a₀ b₀ 1 = true) (hn : Builtin.Range.rangeSize a₀ b₀ 1 = (n : Int)) (F : Fr h₀ env.locals s.heap m₀) (N : News h₀ env.locals s.heap ((ln, obj d₀) :: os d₀))
    (hk0 : ∀ p ∈ kn d₀, m₀ p.1 = some p.2) (h0 : P 0 d₀)
    (turn : ∀ I : Addr, (∀ p ∈ (ln, obj d₀) :: os d₀, p.1 < I) → ∀ i, i < n → ∀ u d, P i d → (∀ p ∈ (ln, obj d) :: os d, p.1 ≠ I) → ∀ t (s₁ : Shared), Fr h₀ env.locals s₁.heap (lay (kn d) (ovr names u m₀)) →
      News h₀ env.locals s₁.heap ((I, itR (a₀ + ((i + 1 : Nat) : Int)) ((n : Int) - ((i + 1 : Nat) : Int))) :: (ln, obj d) :: os d) →
      wpAny (model prog w) A (storeName env x (.int (a₀ + (i : Int)) t)) (fun _ s₃ => wpAny (model prog w) A (execs body env) (TurnPost h₀ env.locals s₁ I (itR (a₀ + ((i + 1 : Nat) : Int)) ((n : Int) - ((i + 1 : Nat) : Int))) (TurnedK names m₀ kn (fun d => (ln, obj d) :: os d) (P (i + 1)))) E s₃) E s₁)
    (done : ∀ u d, P n d → ∀ h tk, Fr h₀ env.locals h (lay (kn d) (ovr names u m₀)) → News h₀ env.locals h ((ln, obj d) :: os d) → Q .next { s with heap := h, toks := tk }) :
    wpAny (model prog w) A (pyIter (.ref r)) (fun it s₂ => LoopAtT prog w A h₀ env (.Name x px) body Q E it s₂) E s :=
  rangeT_dataK names kn (fun d => (ln, obj d) :: os d) P d₀ hh hr hsmall hn F N hk0 h0 turn done
end
/-- a made list of ints, and the cell of a loop's name -/
structure CD where
  vs : List Value
  k : Nat
  o : Obj
theorem For_cell {prog : Program} {w : World} {A : Around} {s : Shared} {env : Env} {h₀ : Heap} {E : Value → Shared → Prop} {Q : Flow → Shared → Prop} {x : Str} {px : Pos} {iter : Expr} {pos : Pos} {body : List Stmt} {m : Str → Option Value} (F : Fr h₀ env.locals s.heap m) (_hc : env.kindOf x = some .cell)
    (h : wpAny (model prog w) A (eval iter env) (fun xv s₁ => wpAny (model prog w) A (pyIter xv) (fun it s₂ => LoopAtT prog w A h₀ env (.Name x px) body Q E it s₂) E s₁) E s)
    (hs : ∀ x, foldedSetIterable iter env x = pure x)
    (hE : PassesOwn (model prog w) A env E := by passes_own) :
    wpAny (model prog w) A (exec (.For (.Name x px) iter body [] pos) env) Q E s := For_invTF F h hs hE
theorem take7 (ns : List Int) : List.take 7 (cnts ns 7) = (List.range 7).map (cnt ns) := by
  rw [cnts_back]; simp
theorem stp_bound (c : Int) : -1 ≤ stp c ∧ stp c ≤ 1 := by unfold stp; split; lia; split <;> lia
theorem sum_bound : ∀ l : List Int, (∀ x ∈ l, -1 ≤ x ∧ x ≤ 1) → -(l.length : Int) ≤ l.sum ∧ l.sum ≤ l.length
  | [], _ => by simp
  | x :: r, h => by
    have h1 := h x (.head _)
    have h2 := sum_bound r fun y hy => h y (.tail _ hy)
    rw [List.sum_cons, List.length_cons]
    lia
theorem cnt_bound (ns : List Int) (k : Nat) : -(k : Int) ≤ cnt ns k ∧ cnt ns k ≤ k := by
  have h := sum_bound ((ns.take k).map stp) fun x hx => by
    obtain ⟨c, _, rfl⟩ := List.mem_map.mp hx
    exact stp_bound c
  rw [List.length_map, List.length_take] at h
  unfold cnt; lia
section
open LCg LCt
variable {prog : Program} {w : World} {A : Around} {E : Value → Shared → Prop} {s : Shared} {h₀ : Heap} {L : Addr} {m : Str → Option Value} {env : Env}
/-- a comprehension with a test, by what holds between its turns -/
theorem compT_inv {ct elt : Expr} {x : Str} {scope : Scope} {cl : List (Str × Addr)} {S : List (Addr × Obj) → Prop} {P : Nat → Value → Prop} {Fin : List Value → List (Addr × Obj) → Prop} {n : Nat} (Inv : Nat → List Value → List (Addr × Obj) → Prop)
    (turn : ∀ i, i < n → ∀ ys news, Inv i ys news → ∀ v I oI C oC D m₂ h tk (E' : Value → Shared → Prop), P i v → NsObj oC m₂ → m₂ x = some v → Fr h₀ L h m → News h₀ L h ((I, oI) :: (C, oC) :: (D, lst ys) :: news) → Off3 I C D news → ((@Ne Nat I C) ∧ (@Ne Nat I D) ∧ (@Ne Nat C D)) →
      wpAny (model prog w) A (isTrue ct (compEnvC scope cl C env) (eval ct (compEnvC scope cl C env))) (fun ok s' => if ok = true then
        wpAny (model prog w) A (eval elt (compEnvC scope cl C env)) (CompEnd h₀ L m { s with heap := h, toks := tk } I oI C oC D (lst ys) S (fun y news' => Inv (i + 1) (ys ++ [y]) news')) E' s'
        else CompEnd h₀ L m { s with heap := h, toks := tk } I oI C oC D (lst ys) S (fun _ news' => Inv (i + 1) ys news') Value.none s') E' { s with heap := h, toks := tk })
    (done : ∀ ys news, Inv n ys news → Fin ys news) : ∀ k i, k + i = n → ∀ ys news, Inv i ys news → CompRestT prog w A h₀ L m env ct elt x scope cl s S P Fin k i ys news := by
  intro k
  induction k with
  | zero =>
    intro i hi ys news h
    have : i = n := by lia
    subst this
    exact done _ _ h
  | succ k ih =>
    intro i hi ys news h v I oI C oC D m₂ hh tk E' a b c F N o q
    refine wpAny_mono (turn i (by lia) ys news h v I oI C oC D m₂ hh tk E' a b c F N o q) (fun ok s' hs => ?_) fun _ _ e => e
    cases ok with
    | true =>
      simp only [if_true] at hs ⊢
      refine wpAny_mono hs (fun y s₂ ⟨h', t', n', e, f, nn, of, ss, r⟩ => ⟨h', t', n', e, f, nn, of, ss, ih (i + 1) (by lia) _ _ r⟩) fun _ _ e => e
    | false =>
      simp only [Bool.false_eq_true, if_false] at hs ⊢
      obtain ⟨h', t', n', e, f, nn, of, ss, r⟩ := hs
      exact ⟨h', t', n', e, f, nn, of, ss, ih (i + 1) (by lia) _ _ r⟩
end
theorem item_cnt {prog : Program} {w : World} {A : Around} {E : Value → Shared → Prop} {s : Shared} {value slice : PySem.Expr} {h₀ : Heap} {L l : Addr} {news : List (Addr × Obj)} {vs : List Value} {ns : List Int} {kk i : Nat} {u : Tok} {Q : Value → Shared → Prop}
    (N : News h₀ L s.heap news) (hm : (l, W.listOf vs.toArray kk) ∈ news) (hI : IntsAre vs (cnts ns 7)) (hi : i < 8) (h : ∀ t, Q (.int (cnt ns i) t) s)
    (hs : subscripted slice false (.ref l) (.int (0 + (i : Int)) u) = operate [.ref l, .int (0 + (i : Int)) u] (getItem (.ref l) (.int (0 + (i : Int)) u)) := by with_unfolding_all rfl) :
    wpAny (model prog w) A (subscriptTail value slice (.ref l) (.int (0 + (i : Int)) u)) Q E s :=
  item_at (N.isList hm) hI (by lia) (by simp; lia) (by simp) (fun t => by
    have e : (cnts ns 7).getD (Int.toNat (0 + (i : Int))) 0 = cnt ns i := by
      rw [Int.zero_add, Int.toNat_natCast, List.getD_eq_getElem?_getD, List.getElem?_map, List.getElem?_range hi]; rfl
    rw [e]; exact h t) hs
theorem off1_ne {D : Addr} : ∀ {l : List (Addr × Obj)}, LCg.Off1 D l → NeAll l D
  | [], _ => fun _ h => nomatch h
  | p :: r, x => fun q hq => by
    rcases List.mem_cons.mp hq with rfl | hq
    · exact x.1
    · exact off1_ne x.2 q hq
theorem off_map {I : Addr} {l l' : List (Addr × Obj)} (h : ∀ p ∈ l, p.1 ≠ I) (e : l'.map (·.1) = l.map (·.1)) : ∀ p ∈ l', p.1 ≠ I := fun p hp q => by
  have h1 : p.1 ∈ l.map (·.1) := e ▸ List.mem_map.mpr ⟨p, hp, rfl⟩
  obtain ⟨r, hr, e2⟩ := List.mem_map.mp h1
  exact h r hr (e2.trans q)
section
open LCg
variable {prog : Program} {w : World} {A : Around} {E : Value → Shared → Prop} {s : Shared} {h₀ : Heap} {L : Addr} {m : Str → Option Value} {env : Env}
/-- a comprehension without a test -/
theorem comp_inv {elt : Expr} {x : Str} {scope : Scope} {cl : List (Str × Addr)} {S : List (Addr × Obj) → Prop} {P : Nat → Value → Prop} {Fin : List Value → List (Addr × Obj) → Prop} {n : Nat} (Inv : Nat → List Value → List (Addr × Obj) → Prop)
    (turn : ∀ i, i < n → ∀ ys news, Inv i ys news → ∀ v I oI C oC D m₂ h tk (E' : Value → Shared → Prop), P i v → NsObj oC m₂ → m₂ x = some v → Fr h₀ L h m → News h₀ L h ((I, oI) :: (C, oC) :: (D, lst ys) :: news) → Off3 I C D news → ((@Ne Nat I C) ∧ (@Ne Nat I D) ∧ (@Ne Nat C D)) →
      wpAny (model prog w) A (eval elt (compEnvC scope cl C env)) (CompEnd h₀ L m { s with heap := h, toks := tk } I oI C oC D (lst ys) S (fun y news' => Inv (i + 1) (ys ++ [y]) news')) E' { s with heap := h, toks := tk })
    (done : ∀ ys news, Inv n ys news → Fin ys news) : ∀ k i, k + i = n → ∀ ys news, Inv i ys news → CompRest prog w A h₀ L m env elt x scope cl s S P Fin k i ys news := by
  intro k
  induction k with
  | zero =>
    intro i hi ys news h
    have : i = n := by lia
    subst this
    exact done _ _ h
  | succ k ih =>
    intro i hi ys news h v I oI C oC D m₂ hh tk E' a b c F N o q
    refine wpAny_mono (turn i (by lia) ys news h v I oI C oC D m₂ hh tk E' a b c F N o q) (fun y s₂ ⟨h', t', n', e, f, nn, of, ss, r⟩ => ⟨h', t', n', e, f, nn, of, ss, ih (i + 1) (by lia) _ _ r⟩) fun _ _ e => e
end
section
open LCg
variable {prog : Program} {w : World} {A : Around} {E : Value → Shared → Prop} {s : Shared} {h₀ : Heap} {L : Addr} {m : Str → Option Value} {env : Env}
/-- a comprehension without a test that turns nothing -/
theorem comp_fix {elt : Expr} {x : Str} {scope : Scope} {cl : List (Str × Addr)} {S : List (Addr × Obj) → Prop} {P : Nat → Value → Prop} {Fin : List Value → List (Addr × Obj) → Prop} {n : Nat} {nw : List (Addr × Obj)} (Inv : Nat → List Value → Prop) (h0 : Inv 0 [])
    (turn : ∀ i, i < n → ∀ ys, Inv i ys → ∀ v I oI C oC D m₂ h tk (E' : Value → Shared → Prop), P i v → NsObj oC m₂ → m₂ x = some v → Fr h₀ L h m → News h₀ L h ((I, oI) :: (C, oC) :: (D, lst ys) :: nw) → Off3 I C D nw → ((@Ne Nat I C) ∧ (@Ne Nat I D) ∧ (@Ne Nat C D)) →
      wpAny (model prog w) A (eval elt (compEnvC scope cl C env)) (CompEnd h₀ L m { s with heap := h, toks := tk } I oI C oC D (lst ys) S (fun y news' => news' = nw ∧ Inv (i + 1) (ys ++ [y]))) E' { s with heap := h, toks := tk })
    (done : ∀ ys, Inv n ys → Fin ys nw) : CompRest prog w A h₀ L m env elt x scope cl s S P Fin n 0 [] nw := by
  refine comp_inv (fun i ys nw' => nw' = nw ∧ Inv i ys) ?_ ?_ n 0 rfl [] nw ⟨rfl, h0⟩
  · rintro i hi ys nw' ⟨rfl, hI⟩
    exact turn i hi ys hI
  · rintro ys nw' ⟨rfl, hI⟩
    exact done ys hI
end
theorem r_mul16 {prog : Program} {w : World} {A : Around} {E : Value → Shared → Prop} {s : Shared} {Q : Value → Shared → Prop} {t u : Tok} {x : Int} (h : Q (.int (x * 65536) s.toks) { s with toks := s.toks + 1 }) : wpAny (model prog w) A (binaryOp .Mult (.int x t) (.int 65536 u)) Q E s :=
  mul_int h (IntMulOk.of_right (intBits_le_iff.mpr (by decide +kernel)))
/-- the line's number -/
noncomputable def hrn (cs : List Int) : Int := cs.foldl (fun a c => a * 65536 + c) 0
theorem hrn_snoc (cs : List Int) (c : Int) : hrn (cs ++ [c]) = hrn cs * 65536 + c := by unfold hrn; rw [List.foldl_append]; rfl
theorem hrn_take {cs : List Int} {i : Nat} {c : Int} (h : cs[i]? = some c) : hrn (cs.take (i + 1)) = hrn (cs.take i) * 65536 + c := by
  obtain ⟨hi, rfl⟩ := List.getElem?_eq_some_iff.mp h
  rw [List.take_succ_eq_append_getElem hi, hrn_snoc]
/-- what the due list holds so far -/
structure DD where
  rs : List Value
  os : List (Addr × Obj)
  k : Nat
  f : Int
  t : Tok
noncomputable def DDok (du T0 : Addr) (o0 : Obj) (Es : Nat → List Dat) (fr : Nat → Int) (i : Nat) (d : DD) : Prop :=
  DatAll ((T0, o0) :: d.os) d.rs (Es i) ∧ (∀ p ∈ d.os, p.1 ≠ du) ∧ d.f = fr i
section
variable {prog : Program} {w : World} {A : Around} {E : Value → Shared → Prop} {s : Shared} {env : Env} {h₀ : Heap} {x : Str} {body : List Stmt} {Q : Flow → Shared → Prop}
theorem unr_off {D : Type} {L I : Addr} {it : Obj} {names : List Str} {m₀ : Str → Option Value} {kn : D → List (Str × Value)} {led : D → List (Addr × Obj)} {P : D → Prop} {s₁ s₂ : Shared} {f : Flow} (h : UnrPost h₀ L s₁ I it (TurnedK names m₀ kn led P) Q f s₂) :
    UnrPost h₀ L s₁ I it (TurnedK names m₀ kn led (fun d => P d ∧ ∀ p ∈ led d, p.1 ≠ I)) Q f s₂ := by
  have key : UnrEnd h₀ L s₁ I it (TurnedK names m₀ kn led P) s₂ → UnrEnd h₀ L s₁ I it (TurnedK names m₀ kn led (fun d => P d ∧ ∀ p ∈ led d, p.1 ≠ I)) s₂ := by
    rintro ⟨h', tk, m', news', e, F, N, off, hm, d, hk, rfl, hP⟩
    exact ⟨h', tk, m', _, e, F, N, off, hm, d, hk, rfl, hP, off⟩
  cases f with
  | ret v => exact h
  | brk => exact h
  | next => exact key h
  | cont => exact key h
/-- a loop over a range by ones, some names told, the ledger off the iterator -/
theorem range_dataO {D : Type} {r : Addr} {a₀ b₀ : Int} {t₀ u₀ v₀ : Tok} {n : Nat} {m₀ : Str → Option Value} (names : List Str) (kn : D → List (Str × Value)) (led : D → List (Addr × Obj)) (P : Nat → D → Prop) (d₀ : D)
    (hh : A.handled = none) (hr : IsRange s.heap r a₀ b₀ 1 t₀ u₀ v₀) (hsmall : Builtin.Range.small a₀ b₀ 1 = true) (hn : Builtin.Range.rangeSize a₀ b₀ 1 = (n : Int)) (F : Fr h₀ env.locals s.heap m₀) (N : News h₀ env.locals s.heap (led d₀))
    (hk0 : ∀ p ∈ kn d₀, m₀ p.1 = some p.2) (h0 : P 0 d₀)
    (turn : ∀ I : Addr, (∀ p ∈ led d₀, p.1 < I) → ∀ i, i < n → ∀ u d, P i d → (∀ p ∈ led d, p.1 ≠ I) → ∀ t h tk, Fr h₀ env.locals h (fun y => if y = x then some (.int (a₀ + (i : Int)) t) else lay (kn d) (ovr names u m₀) y) →
      News h₀ env.locals h ((I, itR (a₀ + ((i + 1 : Nat) : Int)) ((n : Int) - ((i + 1 : Nat) : Int))) :: led d) →
      wpAny (model prog w) A (execs body env) (UnrPost h₀ env.locals { s with heap := h, toks := tk } I (itR (a₀ + ((i + 1 : Nat) : Int)) ((n : Int) - ((i + 1 : Nat) : Int))) (TurnedK names m₀ kn led (P (i + 1))) Q) E { s with heap := h, toks := tk })
    (done : ∀ u d, P n d → ∀ h tk, Fr h₀ env.locals h (lay (kn d) (ovr names u m₀)) → News h₀ env.locals h (led d) → Q .next { s with heap := h, toks := tk }) :
    wpAny (model prog w) A (pyIter (.ref r)) (fun it s₂ => LoopAtV prog w A h₀ env x body Q E it s₂) E s := by
  refine iter_rangeUnr hh hr hsmall hn F N fun I hI => rangeRest_inv (fun i => TurnedK names m₀ kn led (fun d => P i d ∧ ∀ p ∈ led d, p.1 ≠ I)) ?_ ?_ n 0 (by lia) m₀ (led d₀) ⟨fun _ _ => rfl, d₀, hk0, rfl, h0, fun p hp => Nat.ne_of_lt (hI p hp)⟩
  · rintro i hi m news ⟨hm, d, hk, rfl, hP, off⟩ t h tk F₁ N₁
    rw [lay_of (kn d) (ovr names m m₀) m (ovr_of names m₀ m hm) hk] at F₁
    exact wpAny_mono (turn I hI i hi m d hP off t h tk F₁ N₁) (fun f s₂ p => unr_off p) fun _ _ e => e
  · rintro m news ⟨hm, d, hk, rfl, hP, _⟩ h tk F₁ N₁
    rw [lay_of (kn d) (ovr names m m₀) m (ovr_of names m₀ m hm) hk] at F₁
    exact done m d hP h tk F₁ N₁
theorem range_dueK {r : Addr} {a₀ b₀ : Int} {t₀ u₀ v₀ : Tok} {n : Nat} {m₀ : Str → Option Value} {du T0 : Addr} {o0 : Obj} {fix : List (Addr × Obj)} {rs0 : List Value} {k0 : Nat} {t0 : Tok} (names : List Str) (fn : Str) (Es : Nat → List Dat) (fr : Nat → Int)
    (hh : A.handled = none) (hr : IsRange s.heap r a₀ b₀ 1 t₀ u₀ v₀) (hsmall : Builtin.Range.small a₀ b₀ 1 = true) (hn : Builtin.Range.rangeSize a₀ b₀ 1 = (n : Int)) (F : Fr h₀ env.locals s.heap m₀) (N : News h₀ env.locals s.heap ((du, W.listOf rs0.toArray k0) :: (T0, o0) :: fix))
    (hk0 : m₀ fn = some (.int (fr 0) t0)) (h0 : DatAll [(T0, o0)] rs0 (Es 0))
    (turn : ∀ I : Addr, (∀ p ∈ (du, W.listOf rs0.toArray k0) :: (T0, o0) :: fix, p.1 < I) → ∀ i, i < n → ∀ u d, DDok du T0 o0 Es fr i d → (∀ p ∈ (du, W.listOf d.rs.toArray d.k) :: (T0, o0) :: (fix ++ d.os), p.1 ≠ I) → ∀ t h tk, Fr h₀ env.locals h (fun y => if y = x then some (.int (a₀ + (i : Int)) t) else lay [(fn, .int d.f d.t)] (ovr names u m₀) y) →
      News h₀ env.locals h ((I, itR (a₀ + ((i + 1 : Nat) : Int)) ((n : Int) - ((i + 1 : Nat) : Int))) :: (du, W.listOf d.rs.toArray d.k) :: (T0, o0) :: (fix ++ d.os)) →
      wpAny (model prog w) A (execs body env) (UnrPost h₀ env.locals { s with heap := h, toks := tk } I (itR (a₀ + ((i + 1 : Nat) : Int)) ((n : Int) - ((i + 1 : Nat) : Int))) (TurnedK names m₀ (fun d : DD => [(fn, .int d.f d.t)]) (fun d => (du, W.listOf d.rs.toArray d.k) :: (T0, o0) :: (fix ++ d.os)) (DDok du T0 o0 Es fr (i + 1))) Q) E { s with heap := h, toks := tk })
    (done : ∀ u d, DDok du T0 o0 Es fr n d → ∀ h tk, Fr h₀ env.locals h (lay [(fn, .int d.f d.t)] (ovr names u m₀)) → News h₀ env.locals h ((du, W.listOf d.rs.toArray d.k) :: (T0, o0) :: (fix ++ d.os)) → Q .next { s with heap := h, toks := tk }) :
    wpAny (model prog w) A (pyIter (.ref r)) (fun it s₂ => LoopAtV prog w A h₀ env x body Q E it s₂) E s := by
  have e : fix ++ ([] : List (Addr × Obj)) = fix := List.append_nil fix
  refine range_dataO names (fun d : DD => [(fn, .int d.f d.t)]) (fun d => (du, W.listOf d.rs.toArray d.k) :: (T0, o0) :: (fix ++ d.os)) (DDok du T0 o0 Es fr) ⟨rs0, [], k0, fr 0, t0⟩ hh hr hsmall hn F (by dsimp only; rw [e]; exact N) ?_ ⟨h0, (fun _ h => nomatch h), rfl⟩ ?_ done
  · intro p hp
    rw [List.mem_singleton.mp hp]; exact hk0
  · intro I hI i hi u d hd off t h tk F₁ N₁
    dsimp only at hI
    rw [e] at hI
    exact turn I hI i hi u d hd off t h tk F₁ N₁
end
section
variable {prog : Program} {w : World} {A : Around} {E : Value → Shared → Prop} {s : Shared} {h₀ : Heap} {L : Addr} {m : Str → Option Value} {news : List (Addr × Obj)}
theorem in_ints {l : Addr} {vs : List Value} {ns : List Int} {k : Int} {t : Tok} {kk : Nat} {b : Bool} {Q : Value → Shared → Prop} (N : News h₀ L s.heap news) (hm : (l, W.listOf vs.toArray kk) ∈ news) (hI : IntsAre vs ns) (hb : b = true ↔ k ∈ ns) (hu : A.units + 64 < cLine) (h : Q (.bool b) s) :
    wpAny (model prog w) A (compareOp .In (.int k t) (.ref l)) Q E s := by
  classical
  refine kqd_isIn N hm rfl rfl (dat_ints (news := news) hI) (fun _ h => h) (.int k t) (n₂ := news) (fun _ h => h) (fun d hd => ?_) rfl hu ?_
  · obtain ⟨x, _, rfl⟩ := List.mem_map.mp hd; rfl
  · have e : ∀ i : Decidable (Dat.int k ∈ ns.map Dat.int), @decide (Dat.int k ∈ ns.map Dat.int) i = b := by
      intro i
      rw [Bool.eq_iff_iff, decide_eq_true_eq, hb, List.mem_map]
      exact ⟨fun ⟨x, hx, e⟩ => by cases e; exact hx, fun hx => ⟨k, hx, rfl⟩⟩
    rw [e]; exact h
theorem add_base {l b : Addr} {vs ws : List Value} {Q : Value → Shared → Prop} (F : Fr h₀ L s.heap m) (N : News h₀ L s.heap news) (hl : h₀.IsList l vs.toArray) (hb : h₀.IsList b ws.toArray) (hz : vs.length + ws.length ≤ sizeLine)
    (h : ∀ a' h', Fr h₀ L h' m → News h₀ L h' ((a', W.listOf (vs ++ ws).toArray 0) :: news) → LtAll news a' → Q (.ref a') { s with heap := h' }) :
    wpAny (model prog w) A (binaryOp .Add (.ref l) (.ref b)) Q E s :=
  add_lists F N (hl.at fun o e => F.keep _ _ e) (hb.at fun o e => F.keep _ _ e) (fun h' F' N' => h _ h' F' N' fun p hp => Heap.lt_size (N p hp).1) hz
end
/-- the formulas made so far -/
structure FD where
  rs : List Value
  os : List (Addr × Obj)
  k : Nat
section
variable {prog : Program} {w : World} {A : Around} {E : Value → Shared → Prop} {s : Shared} {env : Env} {h₀ : Heap} {x : Str} {body : List Stmt} {Q : Flow → Shared → Prop}
noncomputable def FDok (fl : Addr) (Es : Nat → List Dat) (i : Nat) (d : FD) : Prop := DatAll d.os d.rs (Es i) ∧ ∀ p ∈ d.os, p.1 ≠ fl
/-- a loop over a range that fills a made list with made things -/
theorem range_fillK {r : Addr} {a₀ b₀ : Int} {t₀ u₀ v₀ : Tok} {n : Nat} {m₀ : Str → Option Value} {fl : Addr} {k0 : Nat} (names : List Str) (Es : Nat → List Dat) (hd tl : List (Addr × Obj))
    (hh : A.handled = none) (hr : IsRange s.heap r a₀ b₀ 1 t₀ u₀ v₀) (hsmall : Builtin.Range.small a₀ b₀ 1 = true) (hn : Builtin.Range.rangeSize a₀ b₀ 1 = (n : Int)) (F : Fr h₀ env.locals s.heap m₀) (N : News h₀ env.locals s.heap ((fl, W.listOf #[] k0) :: (hd ++ tl)))
    (h0 : Es 0 = [])
    (turn : ∀ I : Addr, (∀ p ∈ (fl, W.listOf #[] k0) :: (hd ++ tl), p.1 < I) → ∀ i, i < n → ∀ u d, FDok fl Es i d → (∀ p ∈ (fl, W.listOf d.rs.toArray d.k) :: (hd ++ (d.os ++ tl)), p.1 ≠ I) → ∀ t h tk, Fr h₀ env.locals h (fun y => if y = x then some (.int (a₀ + (i : Int)) t) else ovr names u m₀ y) →
      News h₀ env.locals h ((I, itR (a₀ + ((i + 1 : Nat) : Int)) ((n : Int) - ((i + 1 : Nat) : Int))) :: (fl, W.listOf d.rs.toArray d.k) :: (hd ++ (d.os ++ tl))) →
      wpAny (model prog w) A (execs body env) (UnrPost h₀ env.locals { s with heap := h, toks := tk } I (itR (a₀ + ((i + 1 : Nat) : Int)) ((n : Int) - ((i + 1 : Nat) : Int))) (TurnedK names m₀ (fun _ : FD => []) (fun d => (fl, W.listOf d.rs.toArray d.k) :: (hd ++ (d.os ++ tl))) (FDok fl Es (i + 1))) Q) E { s with heap := h, toks := tk })
    (done : ∀ u d, FDok fl Es n d → ∀ h tk, Fr h₀ env.locals h (ovr names u m₀) → News h₀ env.locals h ((fl, W.listOf d.rs.toArray d.k) :: (hd ++ (d.os ++ tl))) → Q .next { s with heap := h, toks := tk }) :
    wpAny (model prog w) A (pyIter (.ref r)) (fun it s₂ => LoopAtV prog w A h₀ env x body Q E it s₂) E s :=
  range_dataO names (fun _ : FD => []) (fun d => (fl, W.listOf d.rs.toArray d.k) :: (hd ++ (d.os ++ tl))) (FDok fl Es) ⟨[], [], k0⟩ hh hr hsmall hn F N (fun _ h => nomatch h) ⟨by rw [h0]; exact .nil, fun _ h => nomatch h⟩
    (fun I hI i hi u d hd' off t h tk F₁ N₁ => turn I hI i hi u d hd' off t h tk F₁ N₁) (fun u d hd' h tk F₁ N₁ => done u d hd' h tk F₁ N₁)
end
theorem base_list {h₀ h : Heap} {L l : Addr} {m : Str → Option Value} {its : Array Value} (F : Fr h₀ L h m) (hl : h₀.IsList l its) : h.IsList l its := hl.at fun o e => F.keep _ _ e
section
variable {prog : Program} {w : World} {A : Around} {E : Value → Shared → Prop} {s : Shared} {h₀ : Heap} {L : Addr} {m : Str → Option Value} {news : List (Addr × Obj)}
theorem add_ints {l b : Addr} {vs ws : List Value} {ns ms : List Int} {k j : Nat} {Q : Value → Shared → Prop} (F : Fr h₀ L s.heap m) (N : News h₀ L s.heap news) (ml : (l, W.listOf vs.toArray k) ∈ news) (mb : (b, W.listOf ws.toArray j) ∈ news) (hv : IntsAre vs ns) (hw : IntsAre ws ms) (hz : ns.length + ms.length ≤ sizeLine)
    (h : ∀ a' h', Fr h₀ L h' m → News h₀ L h' ((a', W.listOf (vs ++ ws).toArray 0) :: news) → LtAll news a' → IntsAre (vs ++ ws) (ns ++ ms) → Q (.ref a') { s with heap := h' }) :
    wpAny (model prog w) A (binaryOp .Add (.ref l) (.ref b)) Q E s :=
  add_made F N ml mb (by rw [hv.length, hw.length]; exact hz) fun a' h' F' N' l' => h a' h' F' N' (LtAll.of l') (hv.append hw)
end
theorem sub_fill {all hd os tl : List (Addr × Obj)} {e z : Addr × Obj} (h1 : ∀ p ∈ e :: (hd ++ (os ++ tl)), p ∈ all) (h2 : z ∈ all) : ∀ p ∈ e :: (hd ++ ((z :: os) ++ tl)), p ∈ all := by
  intro p hp
  rcases List.mem_cons.mp hp with rfl | hp
  · exact h1 _ (.head _)
  rcases List.mem_append.mp hp with hp | hp
  · exact h1 _ (.tail _ (List.mem_append_left _ hp))
  rcases List.mem_cons.mp hp with rfl | hp
  · exact h2
  · exact h1 _ (.tail _ (List.mem_append_right _ hp))
theorem off_fill {hd os tl : List (Addr × Obj)} {fl I : Addr} {o o' : Obj} {z : Addr × Obj} (h1 : ∀ p ∈ (fl, o) :: (hd ++ (os ++ tl)), p.1 ≠ I) (h2 : z.1 ≠ I) : ∀ p ∈ (fl, o') :: (hd ++ ((z :: os) ++ tl)), p.1 ≠ I := by
  intro p hp
  rcases List.mem_cons.mp hp with rfl | hp
  · exact h1 (fl, o) (.head _)
  rcases List.mem_append.mp hp with hp | hp
  · exact h1 _ (.tail _ (List.mem_append_left _ hp))
  rcases List.mem_cons.mp hp with rfl | hp
  · exact h2
  · exact h1 _ (.tail _ (List.mem_append_right _ hp))
end
section
/-- a way that climbs by ones crosses each height a last time -/
theorem climb {f : Nat → Int} {c : Int} : ∀ (b a : Nat), a ≤ b → (∀ k, k < b → f (k + 1) ≤ f k + 1) → f a ≤ c → c < f b → ∃ k, a ≤ k ∧ k < b ∧ f k = c ∧ ∀ j, k < j → j ≤ b → c < f j
  | 0, a, h1, _, h3, h4 => by
    have : a = 0 := by lia
    subst this; lia
  | b + 1, a, h1, h2, h3, h4 => by
    by_cases h5 : c < f b
    · have ha : a ≤ b := by
        rcases Nat.lt_or_ge b a with q | q
        · have : a = b + 1 := by lia
          subst this; lia
        · exact q
      obtain ⟨k, k1, k2, k3, k4⟩ := climb b a ha (fun k hk => h2 k (by lia)) h3 h5
      refine ⟨k, k1, by lia, k3, fun j j1 j2 => ?_⟩
      rcases Nat.lt_or_ge b j with q | q
      · have : j = b + 1 := by lia
        subst this; exact h4
      · exact k4 j j1 q
    · have h6 := h2 b (by lia)
      have ha : a ≤ b := by
        rcases Nat.lt_or_ge b a with q | q
        · have : a = b + 1 := by lia
          subst this; lia
        · exact q
      refine ⟨b, ha, by lia, by lia, fun j j1 j2 => ?_⟩
      have : j = b + 1 := by lia
      subst this; exact h4
theorem cnt_step (ns : List Int) (k : Nat) : cnt ns (k + 1) ≤ cnt ns k + 1 ∧ cnt ns k - 1 ≤ cnt ns (k + 1) := by
  by_cases h : k < ns.length
  · rw [cnt_succ (List.getElem?_eq_getElem h)]
    have := stp_bound ns[k]
    lia
  · unfold cnt
    rw [List.take_of_length_le (by lia), List.take_of_length_le (by lia)]
    lia
/-- the places below the seventh at which the count is c -/
noncomputable def plc (ns : List Int) (c : Int) : List Int := ((List.range 7).filter fun k => decide (cnt ns k = c)).map Int.ofNat
/-- the last of these -/
noncomputable def lastAt (ns : List Int) (c : Int) : Nat := (((List.range 7).filter fun k => decide (cnt ns k = c)).getLast?).getD 0
theorem mem_plc {ns : List Int} {c : Int} {x : Int} : x ∈ plc ns c ↔ ∃ k : Nat, x = k ∧ k < 7 ∧ cnt ns k = c := by
  unfold plc
  rw [List.mem_map]
  constructor
  · rintro ⟨k, hk, rfl⟩
    rw [List.mem_filter, List.mem_range, decide_eq_true_eq] at hk
    exact ⟨k, rfl, hk.1, hk.2⟩
  · rintro ⟨k, rfl, h1, h2⟩
    exact ⟨k, by rw [List.mem_filter, List.mem_range, decide_eq_true_eq]; exact ⟨h1, h2⟩, rfl⟩
/-- the least count ahead of any of the seven signs -/
structure Least (ns : List Int) (M : Int) : Prop where
  at' : ∃ k, k < 7 ∧ cnt ns k = M
  le : ∀ k, k < 7 → M ≤ cnt ns k
theorem Least.zero {ns : List Int} {M : Int} (h : Least ns M) : M ≤ 0 := h.le 0 (by decide)
theorem Least.of {ns : List Int} {M : Int} (h1 : M ∈ List.take 7 (cnts ns 7)) (h2 : ∀ a, a ∈ List.take 7 (cnts ns 7) → M ≤ a) : Least ns M := by
  rw [take7] at h1 h2
  obtain ⟨k, hk, e⟩ := List.mem_map.mp h1
  exact ⟨⟨k, List.mem_range.mp hk, e⟩, fun k hk => h2 _ (List.mem_map.mpr ⟨k, List.mem_range.mpr hk, rfl⟩)⟩
theorem Least.last {ns : List Int} {M c : Int} (h : Least ns M) (h1 : M ≤ c) (h2 : c < M + cnt ns 7) : ∃ k, k < 7 ∧ cnt ns k = c ∧ ∀ j, k < j → j ≤ 7 → c < cnt ns j := by
  obtain ⟨k, hk, e⟩ := h.at'
  have := h.zero
  obtain ⟨k', _, k2, k3, k4⟩ := climb (f := cnt ns) (c := c) 7 k (by lia) (fun k _ => (cnt_step ns k).1) (by lia) (by lia)
  exact ⟨k', k2, k3, k4⟩
theorem plc_max {ns : List Int} {c mx : Int} (h1 : mx ∈ plc ns c) (h2 : ∀ a, a ∈ plc ns c → a ≤ mx) : mx = (lastAt ns c : Nat) := by
  obtain ⟨k, rfl, k1, k2⟩ := mem_plc.mp h1
  unfold lastAt
  have hne : ((List.range 7).filter fun k => decide (cnt ns k = c)) ≠ [] := fun e => by
    have : k ∈ ((List.range 7).filter fun k => decide (cnt ns k = c)) := by rw [List.mem_filter, List.mem_range, decide_eq_true_eq]; exact ⟨k1, k2⟩
    rw [e] at this; cases this
  rw [List.getLast?_eq_some_getLast hne, Option.getD_some]
  have hl := List.getLast_mem hne
  generalize hg : ((List.range 7).filter fun k => decide (cnt ns k = c)).getLast hne = g at hl
  have hl' := hl
  rw [List.mem_filter, List.mem_range, decide_eq_true_eq] at hl'
  have h3 := h2 (g : Nat) (mem_plc.mpr ⟨g, rfl, hl'.1, hl'.2⟩)
  have hs : ((List.range 7).filter fun k => decide (cnt ns k = c)).Pairwise (· < ·) := List.Pairwise.filter _ List.pairwise_lt_range
  have h4 : k ≤ g := by
    have hk : k ∈ ((List.range 7).filter fun k => decide (cnt ns k = c)) := by rw [List.mem_filter, List.mem_range, decide_eq_true_eq]; exact ⟨k1, k2⟩
    obtain ⟨i, hi, e⟩ := List.getElem_of_mem hk
    rw [List.getLast_eq_getElem] at hg
    rw [← e, ← hg]
    rcases Nat.lt_or_ge i (((List.range 7).filter fun k => decide (cnt ns k = c)).length - 1) with q | q
    · exact Nat.le_of_lt (List.pairwise_iff_getElem.mp hs i _ hi (by lia) q)
    · have : i = ((List.range 7).filter fun k => decide (cnt ns k = c)).length - 1 := by lia
      subst this; exact Nat.le_refl _
  have h5 : (g : Int) ≤ (k : Int) := h3
  lia
theorem lastAt_spec {ns : List Int} {M c : Int} (h : Least ns M) (h1 : M ≤ c) (h2 : c < M + cnt ns 7) : lastAt ns c < 7 ∧ cnt ns (lastAt ns c) = c ∧ ∀ j, lastAt ns c < j → j ≤ 7 → c < cnt ns j := by
  obtain ⟨k, k1, k2, k3⟩ := h.last h1 h2
  have e := plc_max (ns := ns) (c := c) (mx := (k : Nat)) (mem_plc.mpr ⟨k, rfl, k1, k2⟩) (fun a ha => by
    obtain ⟨j, rfl, j1, j2⟩ := mem_plc.mp ha
    rcases Nat.lt_or_ge k j with q | q
    · have := k3 j q (by lia); lia
    · lia)
  have e2 : lastAt ns c = k := by lia
  rw [e2]; exact ⟨k1, k2, k3⟩
theorem size_one (a b : Int) : Builtin.Range.rangeSize a b 1 = ((b - a).toNat : Int) := by
  unfold Builtin.Range.rangeSize
  rw [if_pos (by decide)]
  split <;> lia
theorem Least.range {ns : List Int} {M : Int} (h : Least ns M) : Builtin.Range.small M (M + cnt ns 7) 1 = true ∧ Builtin.Range.rangeSize M (M + cnt ns 7) 1 = (((cnt ns 7).toNat : Nat) : Int) := by
  have h1 := cnt_bound ns 7
  obtain ⟨k, hk, e⟩ := h.at'
  have h2 := cnt_bound ns k
  refine ⟨small_one (by lia) (by lia) (by lia) (by lia), ?_⟩
  rw [size_one]; congr 2; lia
/-- the first j places -/
noncomputable def pls (ns : List Int) (M : Int) (j : Nat) : List Int := (List.range j).map fun t : Nat => ((lastAt ns (M + (t : Int)) : Nat) : Int)
theorem pls_succ (ns : List Int) (M : Int) (j : Nat) : pls ns M (j + 1) = pls ns M j ++ [((lastAt ns (M + (j : Int)) : Nat) : Int)] := by
  unfold pls; rw [List.range_succ, List.map_append]; rfl
theorem pls_length (ns : List Int) (M : Int) (j : Nat) : (pls ns M j).length = j := by unfold pls; simp
/-- the places found among the first i -/
noncomputable def plcN (ns : List Int) (c : Int) (i : Nat) : List Int := ((List.range i).filter fun k => decide (cnt ns k = c)).map Int.ofNat
theorem plcN_yes {ns : List Int} {c : Int} {i : Nat} (h : cnt ns i = c) : plcN ns c (i + 1) = plcN ns c i ++ [0 + (i : Int)] := by
  unfold plcN
  rw [List.range_succ, List.filter_append, List.map_append, List.filter_cons_of_pos (by simpa using h)]
  simp
theorem plcN_no {ns : List Int} {c : Int} {i : Nat} (h : cnt ns i ≠ c) : plcN ns c (i + 1) = plcN ns c i := by
  unfold plcN
  rw [List.range_succ, List.filter_append, List.map_append, List.filter_cons_of_neg (by simpa using h)]
  simp
theorem plcN_seven (ns : List Int) (c : Int) : plcN ns c 7 = plc ns c := rfl
theorem Least.plc_pos {ns : List Int} {M : Int} (h : Least ns M) {j : Nat} (hj : j < (cnt ns 7).toNat) : 0 < (plc ns (M + (j : Int))).length := by
  obtain ⟨k, k1, k2, _⟩ := h.last (c := M + (j : Int)) (by lia) (by lia)
  exact List.length_pos_of_mem (mem_plc.mpr ⟨k, rfl, k1, k2⟩)
/-- the line turned -/
noncomputable def rot (ns : List Int) (t : Nat) : List Int := ns.drop t ++ ns.take t
/-- noughts at the end struck -/
noncomputable def trim (cs : List Int) : List Int := (cs.reverse.dropWhile fun c => decide (c = 0)).reverse
theorem trim_nil : trim [] = [] := rfl
theorem trim_zero (ys : List Int) : trim (ys ++ [0]) = trim ys := by unfold trim; simp
theorem trim_keep {ys : List Int} {x : Int} (h : x ≠ 0) : trim (ys ++ [x]) = ys ++ [x] := by unfold trim; simp [h]
noncomputable def slc (xs : List Int) (a b : Int) : List Int := (xs.drop a.toNat).take (min b.toNat xs.length - a.toNat)
/-- the places once more around -/
noncomputable def arnd (ns : List Int) (M : Int) : List Int := pls ns M (cnt ns 7).toNat ++ (pls ns M (cnt ns 7).toNat).map (· + 7)
/-- the j-th formula read from place p -/
noncomputable def fml (ns : List Int) (M : Int) (p j : Nat) : List Int := slc (ns ++ ns) ((arnd ns M).getD (p + j) 0) ((arnd ns M).getD (p + j + 1) 0)
noncomputable def fms (ns : List Int) (M : Int) (p j : Nat) : List (List Int) := (List.range j).map (fml ns M p)
open Classical in
noncomputable def fmsD (ns : List Int) (M : Int) (i : Nat) : Dat :=
  if (i : Int) ∈ pls ns M (cnt ns 7).toNat then .list (datLL (fms ns M ((pls ns M (cnt ns 7).toNat).idxOf (i : Int)) (cnt ns 7).toNat)) else .none
noncomputable def goneZ (ns : List Int) (i : Nat) : Int := if i % 2 = 1 then hrn ns * 65536 ^ i + hrn (ns.take i) else hrn (ns.take i)
noncomputable def entD (ns : List Int) (M : Int) (i : Nat) : Dat :=
  .list [.tuple [.int (hrn (ns.take i)), .int (hrn ns - hrn (ns.take i) * 65536 ^ (7 - i))], .int (goneZ ns i), .list ((trim (rot ns i).reverse).map Dat.int), fmsD ns M i]
noncomputable def dueD (ns : List Int) (M : Int) (i : Nat) : List Dat := .tuple [.int (hrn ns), .int 0] :: (List.range i).map (entD ns M)
theorem dueD_succ (ns : List Int) (M : Int) (i : Nat) : dueD ns M (i + 1) = dueD ns M i ++ [entD ns M i] := by unfold dueD; rw [List.range_succ, List.map_append]; rfl
theorem pls_nonneg (ns : List Int) (M : Int) (j : Nat) : ∀ x ∈ pls ns M j, 0 ≤ x := by
  intro x hx
  unfold pls at hx
  obtain ⟨k, _, rfl⟩ := List.mem_map.mp hx
  lia
theorem arnd_nonneg (ns : List Int) (M : Int) (k : Nat) : 0 ≤ (arnd ns M).getD k 0 := by
  rw [List.getD_eq_getElem?_getD]
  cases h : (arnd ns M)[k]? with
  | none => simp
  | some x =>
    rw [Option.getD_some]
    have hm := List.mem_of_getElem? h
    unfold arnd at hm
    rcases List.mem_append.mp hm with hm | hm
    · exact pls_nonneg _ _ _ _ hm
    · obtain ⟨y, hy, rfl⟩ := List.mem_map.mp hm
      have := pls_nonneg _ _ _ _ hy
      lia
theorem arnd_length (ns : List Int) (M : Int) : (arnd ns M).length = 2 * (cnt ns 7).toNat := by unfold arnd; rw [List.length_append, List.length_map, pls_length]; lia
theorem kqdPs_ints : ∀ ns : List Int, kqdPs (ns.map Dat.int) = ns.map PyData.int
  | [] => rfl
  | n :: r => by rw [List.map_cons, List.map_cons, kqdPs, kqdP, kqdPs_ints r]
theorem weight_small : ∀ ns : List Int, (∀ x ∈ ns, 0 ≤ x ∧ x < 8) → PyData.weightAll (ns.map PyData.int) ≤ 4 * ns.length
  | [], _ => Nat.le_refl _
  | n :: r, h => by
    have h1 := h n (.head _)
    have h2 := weight_small r fun x hx => h x (.tail _ hx)
    have h3 : PyData.weight (.int n) ≤ 3 := by
      unfold PyData.weight
      split
      · lia
      · rename_i hz
        have hz' : n.natAbs ≠ 0 := by intro q; apply hz; have : n = 0 := by lia
                                      rw [this]; rfl
        have := (Nat.log2_lt (n := n.natAbs) (k := 3) hz').mpr (by lia)
        lia
    rw [List.map_cons, List.length_cons]
    show PyData.weight (.int n) + 1 + PyData.weightAll (r.map PyData.int) ≤ 4 * (r.length + 1)
    lia
theorem lay_small {ns : List Int} (h : ∀ x ∈ ns, 0 ≤ x ∧ x < 8) (hl : ns.length ≤ 1000) : PyData.layable0 (.list (ns.map .int)) = true := by
  have h1 := kqd_lay 9 (.list (ns.map Dat.int)) (by simp [kqdOk])
  rw [kqdP, kqdPs_ints] at h1
  have h2 := weight_small ns h
  unfold PyData.layable0
  rw [h1.1, Bool.true_and, Bool.and_eq_true, decide_eq_true_eq, decide_eq_true_eq]
  refine ⟨Nat.le_trans h1.2 (by decide), ?_⟩
  show PyData.weightAll (ns.map PyData.int) ≤ 2 ^ 20
  have : (2 : Nat) ^ 20 = 1048576 := by decide
  lia
theorem lastAt_lt (ns : List Int) (c : Int) : lastAt ns c < 7 := by
  unfold lastAt
  cases h : ((List.range 7).filter fun k => decide (cnt ns k = c)).getLast? with
  | none => decide
  | some x =>
    have := List.mem_of_getLast? h
    rw [List.mem_filter, List.mem_range] at this
    exact this.1
theorem pls_small (ns : List Int) (M : Int) (j : Nat) : ∀ x ∈ pls ns M j, 0 ≤ x ∧ x < 8 := by
  intro x hx
  unfold pls at hx
  obtain ⟨k, _, rfl⟩ := List.mem_map.mp hx
  have := lastAt_lt ns (M + (k : Int))
  lia
end
section
theorem nolen_lri : typeLookup (.type "list_reverseiterator") "__len__" = pure none := by rw [typeLookup_type, builtinLookup_eq_fast]; kernel_rfl
theorem hint_lri : typeLookup (.type "list_reverseiterator") "__length_hint__" = pure (some (.builtin "list_reverseiterator.__length_hint__")) := by rw [typeLookup_type, builtinLookup_eq_fast]; kernel_rfl
section
variable {prog : Program} {w : World} {A : Around} {s : Shared} {R : Result → Shared → Prop}
variable {I : Addr} {fp wr : List Addr} {G : Array GenState → Array GenState → Prop} {n : Nat} {P : Nat → Value → Prop} {St : Nat → Shared → Prop}
/-- a made list takes in what an iterator from behind gives -/
theorem extend_rev (W : WalksS prog w A.in1 I fp wr G n P St) (hT : ∀ i s, St i s → s.TypeIs (.ref I) "list_reverseiterator") (S : Addr) (res : Value) (c₀ : Nat) (hst : St 0 s) (hSf : S ∉ fp) (hI : I ∈ fp)
    (hS : s.heap.get? S = some { cls := .type "list", data := .seq #[] c₀ })
    (hR : ∀ s' acc' c', Moved (S :: wr) G s s' → s'.heap.get? S = some { cls := .type "list", dict := none, data := .seq acc' c', slots := #[] } → ItemsOf P acc' n → R (.ok (.ret res)) s') (hn : n ≤ sizeLine) :
    wpAny (model prog w) A.in1 (Builtin.List.listExtendWith (.ref S) (.ref I) res)
      (fun fin s' => match fin with | .done f => R (.ok f) s' | .again c' => c'.quiet = true ∧ codeAny (model prog w) A c' R s') (fun e s' => R (.error e) s') s := by
  have hSI : S ≠ I := fun e => hSf (e ▸ hI)
  unfold Builtin.List.listExtendWith
  refine wpAny_bind (wpAny_typeOf (hT 0 _ hst) ?_)
  have h1 : Builtin.List.listSameRef (.ref S) (.ref I) = false := by simp [Builtin.List.listSameRef, hSI]
  rw [if_neg (by rw [h1]; decide)]
  refine wpAny_bind (W.self 0 _ _ _ hst ?_)
  refine wpAny_bind (wpAny_holding ?_)
  unfold Builtin.List.listLengthHint
  refine wpAny_bind (wpAny_specialOf (hT 0 _ hst) nolen_lri ?_)
  show wpAny _ A.in1 (specialOf (Value.ref I) (Str.ofString "__length_hint__") >>= _) _ _ _
  refine wpAny_bind (wpAny_specialOf (hT 0 _ hst) hint_lri ?_)
  (generalize hid : ("list_reverseiterator.__length_hint__" : String) = id0; wp_delta; rw [show splitId id0 = some ("list_reverseiterator", "__length_hint__") from by subst hid; decide +kernel]; subst hid)
  refine wpAny_bind (wpAny_isInstance (b := true) (hT 0 _ hst) (by rw [isSubtype_type]; kernel_rfl) ?_)
  refine wpAny_pure ?_
  rw [if_neg (by decide)]
  exact wpAny_pure ⟨plainId_quiet F.plain_extend_loop _, codeAny_extend_loopS W hn _ hSf _ n 0 _ _ _ rfl (Nat.zero_le _) hst hS (ItemsOf.nil P) fun s' acc' c' hm hS' hacc => hR s' acc' c' hm hS' hacc⟩
end
section
variable {prog : Program} {w : World} {A : Around} {E : Value → Shared → Prop} {s : Shared} {h₀ : Heap} {L : Addr} {m : Str → Option Value}
/-- list(reversed(..)) of a list -/
theorem list_rev {I l : Addr} {items : Array Value} {Q : Value → Shared → Prop} (hh : A.handled = none) (hne : l ≠ I) (hit : s.heap.IsRevIter I l ((items.size : Int) - 1)) (hl : s.heap.IsList l items) (hn : items.size ≤ sizeLine)
    (hQ : ∀ h' tk c, (∀ b o, b ≠ I → s.heap.get? b = some o → h'.get? b = some o) → h'.get? s.heap.objs.size = some (W.listOf items.reverse c) → Q (.ref s.heap.objs.size) { s with heap := h', toks := tk }) :
    wpAny (model prog w) A (call (.type "list") [.ref I]) Q E s := by
  have W := (Walks.listRev (prog := prog) (w := w) (A := A.in1.in1) hh I l hne items).toS
  have hfp : ∀ b ∈ [I, l], b < s.heap.objs.size := fun b hb => by
    rcases List.mem_cons.mp hb with rfl | hb
    · obtain ⟨o, e, _⟩ := hit; exact Heap.lt_size e
    · rw [List.mem_singleton.mp hb]; obtain ⟨o, e, _⟩ := hl; exact Heap.lt_size e
  have hSf : s.heap.objs.size ∉ [I, l] := fun hm => Nat.lt_irrefl _ (hfp _ hm)
  have hst : (0 : Nat) ≤ items.size ∧ s.heap.IsRevIter I l ((items.size : Int) - 1 - ((0 : Nat) : Int)) ∧ s.heap.IsList l items := ⟨Nat.zero_le _, by rw [show (items.size : Int) - 1 - ((0 : Nat) : Int) = (items.size : Int) - 1 by lia]; exact hit, hl⟩
  refine callType_codes (Q₁ := fun obj s₁ => obj = .ref s.heap.objs.size ∧ s₁ = { s with heap := s.heap.push { cls := .type "list", data := .seq #[] } }) F.called_list (F.typeCall_list_1 _) F.entry_list_init
    (code_list_new _ ⟨rfl, rfl⟩) fun obj s₁ h₁ => ?_
  obtain ⟨rfl, rfl⟩ := h₁
  have hS : (s.heap.push { cls := .type "list", data := .seq #[] }).get? s.heap.objs.size = some { cls := .type "list", data := .seq #[] } := Heap.get?_push_size _ rfl
  refine ⟨⟨_, hS, rfl⟩, F.args_list_init_2 _ _, ?_⟩
  have up : ∀ b o, s.heap.get? b = some o → (s.heap.push { cls := .type "list", data := .seq #[] }).get? b = some o := fun b o e => Heap.get?_push_of_some _ e
  show wpAny _ A.in1.in1 (do let old ← Builtin.List.listItems (.ref s.heap.objs.size); Builtin.List.listUpdate (.ref s.heap.objs.size) (fun _ => #[]); letGo old.toList.reverse; Builtin.List.listExtendWith (.ref s.heap.objs.size) (.ref I) .none) _ _ _
  refine wpAny_bind ?_
  unfold Builtin.List.listItems
  refine wpAny_bind (wpAny_seqItems hS rfl (wpAny_pure ?_))
  show wpAny _ A.in1.in1 (updateSeq s.heap.objs.size (fun _ => #[]) >>= fun _ => letGo (#[] : Array Value).toList.reverse >>= fun _ => Builtin.List.listExtendWith (.ref s.heap.objs.size) (.ref I) .none) _ _ _
  refine wpAny_bind (wpAny_updateSeq hS rfl ?_)
  have hS₂ := Heap.get?_update_self (Obj.mapSeq (fun _ => (#[] : Array Value))) hS rfl
  have oth : ∀ b o, b ≠ s.heap.objs.size → s.heap.get? b = some o → ((s.heap.push { cls := .type "list", data := .seq #[] }).update s.heap.objs.size (Obj.mapSeq (fun _ => (#[] : Array Value)))).get? b = some o :=
    fun b o hb e => (Heap.get?_update_other _ _ (Ne.symm hb)).trans (up b o e)
  refine wpAny_bind (wpAny_letGo ?_)
  refine extend_rev W (fun _ _ st => st.2.1.typeIs) _ .none _ ?_ hSf (.head _) hS₂ (fun s' acc' c' hm hS' hacc => ?_) hn
  · exact ⟨hst.1, hst.2.1.at fun o e => oth _ _ (fun q => hSf (q ▸ .head _)) e, hst.2.2.at fun o e => oth _ _ (fun q => hSf (q ▸ .tail _ (.head _))) e⟩
  · obtain ⟨h', gn, dr, tk, os⟩ := s'
    have e1 : gn = s.gens := hm.gens
    have e2 : dr = s.drawn := hm.drawn
    have e3 : os = s.os := hm.os
    subst e1 e2 e3
    refine ⟨rfl, hQ h' tk c' (fun b o hb e => hm.heap b o (fun q => ?_) (oth b o (fun q2 => ?_) e)) ?_⟩
    · rcases List.mem_cons.mp q with q | q
      · rw [q] at e; exact Nat.lt_irrefl _ (Heap.lt_size e)
      · exact hb (List.mem_singleton.mp q)
    · rw [q2] at e; exact Nat.lt_irrefl _ (Heap.lt_size e)
    · have ea : acc' = items.reverse := by
        apply Array.ext
        · rw [hacc.1, Array.size_reverse]
        · intro i h1 h2
          have h3 : items[items.size - 1 - i]? = some acc'[i] := hacc.2 i _ (Array.getElem?_eq_getElem h1)
          have h4 : i < items.size := by rw [Array.size_reverse] at h2; exact h2
          rw [Array.getElem?_eq_getElem (by lia)] at h3
          rw [Array.getElem_reverse]
          exact (Option.some.inj h3).symm
      rw [← ea]; exact hS'
/-- the same, over a ledger -/
theorem listRev_K {I l : Addr} {vs : List Value} {rest : List (Addr × Obj)} {Q : Value → Shared → Prop} (hh : A.handled = none) (F : Fr h₀ L s.heap m) (N : News h₀ L s.heap ((I, revObj l ((vs.length : Int) - 1)) :: rest)) (off : ∀ p ∈ rest, p.1 ≠ I) (hne : l ≠ I) (hl : s.heap.IsList l vs.toArray) (hn : vs.length ≤ sizeLine)
    (h : ∀ D h' tk c, Fr h₀ L h' m → News h₀ L h' ((D, W.listOf vs.reverse.toArray c) :: rest) → LtAll rest D → Q (.ref D) { s with heap := h', toks := tk }) :
    wpAny (model prog w) A (call (.type "list") [.ref I]) Q E s := by
  have z := N _ (.head _)
  have hz : (vs.toArray.size : Int) = vs.length := by rw [List.size_toArray]
  refine list_rev (items := vs.toArray) hh hne (by rw [hz]; exact ⟨_, z.1, rfl, rfl⟩) hl (by rw [List.size_toArray]; exact hn) fun h' tk c k e => ?_
  have er : vs.toArray.reverse = vs.reverse.toArray := by simp
  rw [er] at e
  have FL := F.ns.lt
  refine h _ h' tk c ⟨F.ns.at' fun o e2 => k _ _ (fun q => z.2.1 q.symm) e2, fun b o e2 => k _ _ (fun q => ?_) (F.keep b o e2), F.above⟩ (fun p hp => ?_) fun p hp => Heap.lt_size (N p (.tail _ hp)).1
  · rw [q, z.2.2] at e2; cases e2
  · rcases List.mem_cons.mp hp with rfl | hp
    · refine ⟨e, Nat.ne_of_gt FL, ?_⟩
      cases q : h₀.get? s.heap.objs.size with
      | none => rfl
      | some o => exact absurd (Heap.lt_size (F.keep _ _ q)) (Nat.lt_irrefl _)
    · exact ⟨k _ _ (off p hp) (N p (.tail _ hp)).1, (N p (.tail _ hp)).2⟩
end
theorem lt_off {I : Nat} {l : List (Addr × Obj)} (h : ∀ p ∈ l, p.1 < I) : ∀ p ∈ l, p.1 ≠ I := fun p hp => Nat.ne_of_lt (h p hp)
theorem lt_off1 {I : Nat} {l : List (Addr × Obj)} {a : Addr} {o : Obj} (h : ∀ p ∈ l, p.1 < I) (hm : (a, o) ∈ l) : a ≠ I := Nat.ne_of_lt (h _ hm)
theorem getD_int {vs : List Value} {n : Nat} {v : Value} (h : vs = [v]) : vs.length = 1 := by rw [h]; rfl
section
variable {prog : Program} {w : World} {A : Around} {E : Value → Shared → Prop} {s : Shared} {h₀ : Heap} {L : Addr} {m : Str → Option Value}
theorem listRev_I {I l : Addr} {vs : List Value} {ns : List Int} {k : Nat} {rest : List (Addr × Obj)} {Q : Value → Shared → Prop} (hh : A.handled = none) (F : Fr h₀ L s.heap m) (N : News h₀ L s.heap ((I, revObj l ((vs.length : Int) - 1)) :: rest)) (off : LtAll rest I) (hm : (l, W.listOf vs.toArray k) ∈ rest) (hI : IntsAre vs ns) (hn : ns.length ≤ sizeLine)
    (h : ∀ D h' tk c ws, Fr h₀ L h' m → News h₀ L h' ((D, W.listOf (List.toArray ws) c) :: rest) → LtAll rest D → IntsAre ws ns.reverse → Q (.ref D) { s with heap := h', toks := tk }) :
    wpAny (model prog w) A (call (.type "list") [.ref I]) Q E s :=
  listRev_K hh F N (lt_off off) (lt_off1 off hm) (N.isList (.tail _ hm)) (by rw [hI.length]; exact hn) fun D h' tk c F' N' l' => h D h' tk c _ F' N' l' (ints_rev hI)
end
end
section
noncomputable def TrimOut (h₀ : Heap) (L : Addr) (m : Str → Option Value) (s : Shared) (cd : Addr) (rest : List (Addr × Obj)) (cs : List Int) (s₂ : Shared) : Prop :=
  ∃ h' tk vs k, s₂ = { s with heap := h', toks := tk } ∧ Fr h₀ L h' m ∧ News h₀ L h' ((cd, W.listOf (List.toArray vs) k) :: rest) ∧ IntsAre vs cs
noncomputable def TrimStep (h₀ : Heap) (L : Addr) (m : Str → Option Value) (s : Shared) (cd : Addr) (rest : List (Addr × Obj)) (cs : List Int) (f : Flow) (s₃ : Shared) : Prop :=
  f = .next ∧ ∃ cs', cs'.length < cs.length ∧ trim cs' = trim cs ∧ TrimOut h₀ L m s cd rest cs' s₃
noncomputable def TrimStop (h₀ : Heap) (L : Addr) (m : Str → Option Value) (s : Shared) (cd : Addr) (rest : List (Addr × Obj)) (cs : List Int) (s₂ : Shared) : Prop :=
  trim cs = cs ∧ TrimOut h₀ L m s cd rest cs s₂
theorem ints_snoc : ∀ {vs : List Value} {ys : List Int} {x : Int}, IntsAre vs (ys ++ [x]) → ∃ us t, vs = us ++ [.int x t] ∧ IntsAre us ys
  | v :: r, [], x, h => by
    cases h with
    | cons n t h => cases h; exact ⟨[], t, rfl, .nil⟩
  | [], [], x, h => nomatch h
  | [], y :: ys, x, h => nomatch h
  | v :: r, y :: ys, x, h => by
    cases h with
    | cons n t h =>
      obtain ⟨us, t', e, i⟩ := ints_snoc h
      exact ⟨_ :: us, t', by rw [e]; rfl, .cons _ _ i⟩
section
variable {prog : Program} {w : World} {A : Around} {E : Value → Shared → Prop} {Q : Flow → Shared → Prop} {s : Shared} {env : Env} {h₀ : Heap} {L : Addr}
/-- a while that strikes the noughts off a made list's end -/
theorem while_trim {test : Expr} {body : List Stmt} {pos : Pos} {m : Str → Option Value} {cd : Addr} {vs0 : List Value} {cs0 : List Int} {k0 : Nat} {rest : List (Addr × Obj)} (F : Fr h₀ L s.heap m) (N : News h₀ L s.heap ((cd, W.listOf vs0.toArray k0) :: rest)) (hI0 : IntsAre vs0 cs0)
    (turn : ∀ vs cs k, IntsAre vs cs → cs.length ≤ cs0.length → ∀ h tk, Fr h₀ L h m → News h₀ L h ((cd, W.listOf (List.toArray vs) k) :: rest) →
      wpAny (model prog w) A (isTrue test env (eval test env)) (fun b s₂ =>
        if b = true then wpAny (model prog w) A (execs body env) (TrimStep h₀ L m s cd rest cs) E s₂ else TrimStop h₀ L m s cd rest cs s₂) E { s with heap := h, toks := tk })
    (done : ∀ vs k h tk, IntsAre vs (trim cs0) → Fr h₀ L h m → News h₀ L h ((cd, W.listOf (List.toArray vs) k) :: rest) → Q .next { s with heap := h, toks := tk })
    (hE : PassesOwn (model prog w) A env E := by passes_own) :
    wpAny (model prog w) A (exec (.While test body [] pos) env) Q E s := by
  refine While_inv (fun n m' news' => m' = m ∧ ∃ vs cs k, news' = (cd, W.listOf (List.toArray vs) k) :: rest ∧ IntsAre vs cs ∧ trim cs = trim cs0 ∧ cs.length ≤ cs0.length ∧ cs.length = n) F N ⟨rfl, vs0, cs0, k0, rfl, hI0, rfl, Nat.le_refl _, rfl⟩ ?_ hE
  rintro n m₁ news₁ h₁ tk₁ F₁ N₁ ⟨rfl, vs, cs, k, rfl, hI, ht, hl, hn⟩
  refine wpAny_mono (turn vs cs k hI hl h₁ tk₁ F₁ N₁) (fun b s₂ h₂ => ?_) fun _ _ e => e
  cases b with
  | false =>
    simp only [Bool.false_eq_true, if_false] at h₂ ⊢
    obtain ⟨e, h', tk, vs', k', rfl, F', N', hI'⟩ := h₂
    rw [← e, ht] at hI'
    exact done vs' k' h' tk hI' F' N'
  | true =>
    simp only [if_true] at h₂ ⊢
    refine wpAny_mono h₂ (fun f s₃ h₃ => ?_) fun _ _ e => e
    obtain ⟨rfl, cs', hlt, e, h', tk, vs', k', rfl, F', N', hI'⟩ := h₃
    exact ⟨rfl, h', tk, m₁, _, cs'.length, rfl, F', N', by lia, rfl, vs', cs', k', rfl, hI', e.trans ht, by lia, rfl⟩
end
section
variable {prog : Program} {w : World} {A : Around} {E : Value → Shared → Prop} {s : Shared} {h₀ : Heap} {L : Addr} {m : Str → Option Value} {news : List (Addr × Obj)}
theorem ne_ints {l z : Addr} {vs : List Value} {ns : List Int} {k j : Nat} {b : Bool} {Q : Value → Shared → Prop} (N : News h₀ L s.heap news) (hm : (l, W.listOf vs.toArray k) ∈ news) (hz : (z, W.listOf #[] j) ∈ news) (hI : IntsAre vs ns) (hb : b = true ↔ ns ≠ []) (hu : A.units + 64 < cLine) (h : Q (.bool b) s) :
    wpAny (model prog w) A (compareOp .NotEq (.ref l) (.ref z)) Q E s := by
  classical
  refine kqd_ne (xs := vs) (ys := []) (n₁ := news) (n₂ := news) (es := []) N hm rfl rfl (dat_ints hI) (fun _ h => h) hz rfl rfl .nil (fun _ h => h) (fun d hd => ?_) (fun d hd => nomatch hd) hu ?_
  · obtain ⟨x, _, rfl⟩ := List.mem_map.mp hd; rfl
  · have e : ∀ i : Decidable (ns.map Dat.int = []), (!@decide (ns.map Dat.int = []) i) = b := by
      intro i
      rw [Bool.eq_iff_iff, hb, Bool.not_eq_true', decide_eq_false_iff_not, List.map_eq_nil_iff]
    rw [e]; exact h
end
theorem item_nat {prog : Program} {w : World} {A : Around} {E : Value → Shared → Prop} {s : Shared} {value slice : PySem.Expr} {h₀ : Heap} {L l : Addr} {news : List (Addr × Obj)} {vs : List Value} {ns : List Int} {kk n : Nat} {k : Int} {u : Tok} {Q : Value → Shared → Prop}
    (N : News h₀ L s.heap news) (hm : (l, W.listOf vs.toArray kk) ∈ news) (hI : IntsAre vs ns) (hk : k = (n : Nat)) (hn : n < ns.length) (hb : ns.length < 2 ^ 62) (h : ∀ t, Q (.int (ns.getD n 0) t) s)
    (hs : subscripted slice false (.ref l) (.int k u) = operate [.ref l, .int k u] (getItem (.ref l) (.int k u)) := by with_unfolding_all rfl) :
    wpAny (model prog w) A (subscriptTail value slice (.ref l) (.int k u)) Q E s := by
  subst hk
  refine item_at (N.isList hm) hI (by lia) (by lia) hb (fun t => ?_) hs
  rw [Int.toNat_natCast]; exact h t
theorem fill_small {p l : Nat} (hp : p < 8) (hl : l < 8) : Builtin.Range.small (p : Int) ((p : Int) + (l : Int)) 1 = true ∧ Builtin.Range.rangeSize (p : Int) ((p : Int) + (l : Int)) 1 = ((l : Nat) : Int) := by
  refine ⟨small_one (by lia) (by lia) (by lia) (by lia), ?_⟩
  rw [size_one]; congr 1; lia
theorem fms_succ (ns : List Int) (M : Int) (p j : Nat) : fms ns M p (j + 1) = fms ns M p j ++ [fml ns M p j] := by unfold fms; rw [List.range_succ, List.map_append]; rfl
theorem hrn_bound : ∀ (n : Nat) (cs : List Int), cs.length = n → (∀ c ∈ cs, 0 ≤ c ∧ c < 65536) → 0 ≤ hrn cs ∧ hrn cs < 65536 ^ n
  | 0, cs, hl, _ => by
    rw [List.length_eq_zero_iff.mp hl]; unfold hrn; simp
  | n + 1, cs, hl, h => by
    rcases List.eq_nil_or_concat cs with rfl | ⟨r, c, rfl⟩
    · simp at hl
    · rw [List.concat_eq_append] at *
      have hl' : r.length = n := by simpa using hl
      have h1 := hrn_bound n r hl' fun x hx => h x (List.mem_append_left _ hx)
      have h2 := h c (List.mem_append_right _ (.head _))
      rw [hrn_snoc, Int.pow_succ]
      generalize (65536 : Int) ^ n = P at *
      lia
theorem r_mulP {prog : Program} {w : World} {A : Around} {E : Value → Shared → Prop} {s : Shared} {Q : Value → Shared → Prop} {t u : Tok} {x : Int} {k : Nat} (hx : Builtin.Int.intBits x ≤ 2 ^ 20) (hk : k ≤ 1000) (h : Q (.int (x * 65536 ^ k) s.toks) { s with toks := s.toks + 1 }) :
    wpAny (model prog w) A (binaryOp .Mult (.int x t) (.int (65536 ^ k) u)) Q E s :=
  mul_int h (IntMulOk.of_bits hx (bits_lt (Int.le_of_lt (Int.pow_pos (by decide))) (by
    have e : (65536 : Int) = 2 ^ 16 := by decide
    rw [e, ← Int.pow_mul]
    exact Int.pow_lt_pow_of_lt (by decide) (Nat.lt_of_le_of_lt (Nat.mul_le_mul_left 16 hk) (by decide)))))
theorem bits_hrn {cs : List Int} (h : ∀ c ∈ cs, 0 ≤ c ∧ c < 55296) (hl : cs.length ≤ 7) : Builtin.Int.intBits (hrn cs) ≤ 2 ^ 20 := by
  have h1 := hrn_bound _ cs rfl fun c hc => ⟨(h c hc).1, by have := (h c hc).2; lia⟩
  refine bits_lt h1.1 (Int.lt_trans h1.2 ?_)
  have e : (65536 : Int) = 2 ^ 16 := by decide
  rw [e, ← Int.pow_mul]
  exact Int.pow_lt_pow_of_lt (by decide) (Nat.lt_of_le_of_lt (Nat.mul_le_mul_left 16 hl) (by decide))
end
section
local macro_rules | `(tactic| walk_at "my lt") => `(tactic| ((rename LtAll _ _ => l9); (have l8 := l9); (repeat (have q8 := LtAll.hd l8; replace l8 := LtAll.tl l8))))
local macro_rules | `(tactic| walk_at "my ne") => `(tactic| ((rename NeAll _ _ => l9); (have l8 := l9); (repeat (have q8 := NeAll.hd l8; replace l8 := NeAll.tl l8))))
local macro_rules | `(tactic| k_mem) => `(tactic| first | (with_reducible exact List.mem_cons_self) | (with_reducible refine' List.mem_cons_of_mem _ ?_; k_mem) | ((with_reducible show _ ∈ _ ++ _); first | exact List.mem_append_left _ (by with_reducible assumption) | (refine' List.mem_append_right _ ?_; k_mem)) | (with_reducible assumption) | exact List.Mem.head _)
local macro_rules | `(tactic| k_ne) => `(tactic| first | (with_reducible assumption) | (with_reducible exact Ne.symm (by assumption)) | fail "k_ne")
local macro_rules | `(tactic| k_all) => `(tactic| first | exact List.forall_mem_nil _ | (with_reducible assumption) | ((with_reducible show ∀ p ∈ _ ++ _, _); refine' List.forall_mem_append.mpr ⟨?a, ?b⟩; (case a => k_all); (case b => k_all)) | (refine' List.forall_mem_cons.mpr ⟨?a, ?b⟩; (case a => k_ne); (case b => k_all)) | exact ltAll_sub (by with_reducible assumption) (fun p hp => by k_mem) | exact ne_sub (by with_reducible assumption) (fun p hp => by k_mem) | fail "k_all")
section
local macro_rules | `(tactic| walk_at "exec For Name Name cons nil") => `(tactic| (k_here; (rename Fr _ _ _ _ => lF'); (with_unfolding_all refine' For_invVF lF' ?k1 ?k2 ?_; (case k1 => exact rfl); (case k2 => exact rfl); k_whole)))
section
theorem word28 : True := by
  k_with_none
  k_with "my enter" => ((refine wpAny_call ?_; refine' enterP ?k1 ?k2 ?k3 ?k5 ?kA ?kF ?kK ?k6 ?k7 ?k8 ?k9 ?kB ?_ ?c2 ?c3 ?c4 ?c5; (case kA => exact rfl); (case kF => exact rfl); (case kK => assumption); (case k1 => k_asm); (case k2 => k_asm); (case k3 => k_asm); (case k5 => k_asm); (case k6 => k_is); (case k7 => k_is); (case k8 => ktr_room); (case k9 => exact BindsTo.of_eq rfl); (case c5 => decide); (case kB => exact locs rfl); (case c2 => exact rfl); (case c3 => exact rfl); (case c4 => exact rfl); k_whole))
  k_with "my use" => (((case k1 => k_asm); (case k2 => k_asm); (case k3 => k_asm); (case k4 => k_asm); (case k5 => k_asm); (case kK => first | exact rfl | assumption); (case kd => ktr_room); (case ku => ktr_units)))
  k_with "pyIter ref" => (refine Hold.out ?_)
  k_with "UnrEnd" => (refine Hold.out ?_)
  k_with "callWith" => (((with_reducible show wpAny _ _ (callWith _ (Prod.fst _) (Prod.snd _) _ _) _ _ _); dsimp only; (with_reducible refine callWith_method1 ?_ ?he ?hp); (case he => rfl); (case hp => rfl)))
  k_with "call builtin:list.append" => (((show wpAny _ _ (call (Value.builtin "list.append") [Value.ref _, _]) _ _ _); k_dflt (refine' append_list ?k1 ?k2 ?k3 ?z ?_; (case k1 => k_asm); (case k2 => k_asm); (case k3 => k_upd); (case z => walk_at "my size"); k_whole); intro _ _ _; (try dsimp only)))
  k_with "my size" => (first | with_reducible assumption | exact Nat.le_of_ble_eq_true rfl | (rw [sizeLine_eq]; omega))
  k_with "my fits" => (first | with_reducible assumption | omega)
  k_with "newList" => ((k_dflt (refine' newl_made ?k1 ?k2 ?_ ?z; (case k1 => k_asm); (case k2 => k_asm); (case z => walk_at "my size"); k_whole); intro _ _ _ _ _; (try dsimp only)))
  k_with "call type:reversed" => ((k_here; (with_reducible show wpAny _ _ (call (Value.type _) [Value.ref _]) _ _ _); k_dflt (refine' krv_reversed ?F ?N ?l ?_; (case F => k_asm); (case N => k_asm); (case l => is_list)); intro _ _ _ _ _))
  k_with "call builtin:list.reverse" => (((show wpAny _ _ (call (Value.builtin "list.reverse") [Value.ref _]) _ _ _); k_dflt (refine' rev_made ?k1 ?k2 ?k3 ?z ?_; (case k1 => k_asm); (case k2 => k_asm); (case k3 => k_upd); (case z => walk_at "my size"); k_whole); intro _ _ _; (try dsimp only)))
  k_with "call builtin:len" => (((show wpAny _ _ (call (Value.builtin "len") [Value.ref _]) _ _ _); k_dflt (refine' len_made ?k1 ?k2 ?k3 ?k4 ?_; (case k1 => k_asm); (case k2 => k_mem); (case k3 => (first | exact rfl | assumption)); (case k4 => first | decide | walk_at "my fits")); (try dsimp only)))
  k_with "call builtin:list.pop" => (((show wpAny _ _ (call (Value.builtin "list.pop") [Value.ref _]) _ _ _); k_dflt (refine' pop_made ?k1 ?k2 ?k3 ?z ?_; (case k1 => k_asm); (case k2 => k_asm); (case k3 => k_upd); (case z => walk_at "my size"); k_whole); intro _ _ _; (try dsimp only)))
  k_with "binaryOp Add ref ref" => (((with_reducible show wpAny _ _ (binaryOp _ (Value.ref _) (Value.ref _)) _ _ _); k_dflt (refine' add_made ?k1 ?k2 ?k3 ?k4 ?z ?_; (case k1 => k_asm); (case k2 => k_asm); (case k3 => k_mem); (case k4 => k_mem); (case z => walk_at "my size"); k_whole); intro _ _ _ _ _; (try dsimp only)))
  k_with "newList" => ((k_dflt (refine' newl_made ?k1 ?k2 ?_ ?z; (case k1 => k_asm); (case k2 => k_asm); (case z => walk_at "my size"); k_whole); intro _ _ _ _ _; walk_at "my of"; walk_at "my lt"; (try dsimp only)))
  k_with "call type:reversed" => ((k_here; (with_reducible show wpAny _ _ (call (Value.type _) [Value.ref _]) _ _ _); k_dflt (refine' krv_reversed ?F ?N ?l ?_; (case F => k_asm); (case N => k_asm); (case l => is_list)); intro _ _ _ _ _; walk_at "my of"; walk_at "my lt"))
  k_with "binaryOp Add ref ref" => (((with_reducible show wpAny _ _ (binaryOp _ (Value.ref _) (Value.ref _)) _ _ _); k_dflt (refine' add_made ?k1 ?k2 ?k3 ?k4 ?z ?_; (case k1 => k_asm); (case k2 => k_asm); (case k3 => k_mem); (case k4 => k_mem); (case z => walk_at "my size"); k_whole); intro _ _ _ _ _; walk_at "my of"; walk_at "my lt"; (try dsimp only)))
  k_with "newTuple" => ((k_here; k_dflt (refine' kup_newTuple ?F ?N ?_ ?z; (case F => k_asm); (case N => k_asm); (case z => exact Nat.le_of_ble_eq_true rfl)); intro _ _ _ _ _; walk_at "my of"; walk_at "my lt"; (try dsimp only)))
  k_with "call ref" => (refine Hold.out ?_)
  k_with "subscriptTail Name UnaryOp ref int" => (((with_reducible show wpAny _ _ (subscriptTail _ _ (Value.ref _) (Value.int _ _)) _ _ _); k_dflt (refine' item_back ?k1 ?k2 ?k3 ?_; (case k1 => k_asm); (case k2 => k_mem); (case k3 => assumption)); intro _; (try dsimp only)))
  k_with "call builtin:min" => ((k_here; (with_reducible show wpAny _ _ (call (Value.builtin _) [Value.ref _]) _ _ _); k_dflt (refine' kso_min ?k1 ?k2 ?k3 ?k4 ?k5 ?k6 ?_; (case k1 => k_asm); (case k2 => k_asm); (case k3 => exact News.isList (by assumption) (by k_mem)); (case k4 => assumption); (case k5 => assumption); (case k6 => exact rfl)); intro _ _ _ _ _ _ _ _; (try dsimp only)))
  k_with "call builtin:max" => ((k_here; (with_reducible show wpAny _ _ (call (Value.builtin _) [Value.ref _]) _ _ _); k_dflt (refine' kso_max ?k1 ?k2 ?k3 ?k4 ?k5 ?k6 ?_; (case k1 => k_asm); (case k2 => k_asm); (case k3 => exact News.isList (by assumption) (by k_mem)); (case k4 => assumption); (case k5 => assumption); (case k6 => exact rfl)); intro _ _ _ _ _ _ _ _; (try dsimp only)))
  k_with "subscriptTail Name Constant ref int" => (((with_reducible show wpAny _ _ (subscriptTail _ _ (Value.ref _) (Value.int 7 _)) _ _ _); k_dflt (refine' item_7 ?k1 ?k2 ?k3 ?_; (case k1 => k_asm); (case k2 => k_mem); (case k3 => assumption)); intro _; (try dsimp only)))
  k_with "exec For Name Call cons nil" => ((k_dflt (refine' For_cell ?F ?c ?_ ?s; (case c => exact rfl); (case F => k_asm); (case s => (intro _; exact rfl)); k_whole)))
  k_with "eval ListComp" => (refine Hold.out ?_)
  k_with "compareOp NotEq ref ref" => (((with_reducible show wpAny _ _ (compareOp _ (Value.ref _) (Value.ref _)) _ _ _); k_dflt (refine' ne_ints ?n ?a ?b ?c ?d ?e ?_; (case n => k_asm); (case a => k_mem); (case b => k_mem); (case c => assumption); (case d => assumption); (case e => ktr_units)); (try dsimp only)))
  k_with "binaryOp Mult int int" => (((with_reducible show wpAny _ _ (binaryOp _ (Value.int _ _) (Value.int (65536 ^ _) _)) _ _ _); k_dflt (refine r_mulP (by with_reducible assumption) (by with_reducible assumption) ?_); (try dsimp only)))
  k_with "binaryOp Mult int int" => (((with_reducible show wpAny _ _ (binaryOp _ (Value.int _ _) (Value.int 65536 _)) _ _ _); refine r_mul16 ?_; (try dsimp only)))
  k_with "exec While Compare cons nil" => (refine Hold.out ?_)
  k_with "exec While BoolOp cons nil" => (refine Hold.out ?_)
  k_with "subscriptTail Name Slice ref ref" => ((k_here; (with_reducible show wpAny _ _ (subscriptTail _ (PySem.Expr.Slice _ _ none _) (Value.ref _) (Value.ref _)) _ _ _); k_dflt (refine' kmk_slice_ints ?F ?N ?l ?p ?q ?i ?m ?c ?_ ?s ?t ?z; (case F => k_asm); (case N => k_asm); (case l => exact base_list (by k_asm) (by assumption)); (case p => kmk_part); (case q => kmk_part); (case i => assumption); (case m => first | exact kmk_upto (by assumption) (by assumption) | exact kmk_from (by assumption) (by assumption)); (case c => kmk_len); (case s => with_unfolding_all rfl); (case t => kmk_pure); (case z => assumption)); intro _ _ _ _ _ _ _ _ _; walk_at "my of"; walk_at "my lt"; (try dsimp only)))
  k_with "binaryOp Add ref ref" => (((with_reducible show wpAny _ _ (binaryOp _ (Value.ref _) (Value.ref _)) _ _ _); k_dflt (refine' add_ints ?k1 ?k2 ?k3 ?k4 ?i1 ?i2 ?z ?_; (case k1 => k_asm); (case k2 => k_asm); (case k3 => k_mem); (case k4 => k_mem); (case i1 => assumption); (case i2 => assumption); (case z => assumption); k_whole); intro _ _ _ _ _ _; walk_at "my lt"; (try dsimp only)))
  k_with "binaryOp Add ref ref" => (((with_reducible show wpAny _ _ (binaryOp _ (Value.ref _) (Value.ref _)) _ _ _); k_dflt (refine' add_base ?k1 ?k2 ?k3 ?k4 ?z ?_; (case k1 => k_asm); (case k2 => k_asm); (case k3 => assumption); (case k4 => assumption); (case z => assumption); k_whole); intro _ _ _ _ _; walk_at "my lt"; (try dsimp only)))
  k_with "subscriptTail Name BinOp ref int" => (refine Hold.out ?_)
  k_with "subscriptTail BinOp Slice ref ref" => (refine Hold.out ?_)
  k_with "last subscriptTail" => (refine Hold.out ?_)
  k_with "call builtin:list.index" => (((show wpAny _ _ (call (Value.builtin "list.index") [Value.ref _, Value.int _ _]) _ _ _); k_dflt (refine' index_list_ints ?a ?b ?c ?d ?_; (case a => exact News.isList (by assumption) (by k_mem)); (case b => assumption); (case c => assumption); (case d => assumption)); (try dsimp only)))
  k_with "compareOp In int ref" => (refine Hold.out ?_)
  k_with "CompSrc" => (refine Hold.out ?_)
  k_with "CompSrcT" => (refine Hold.out ?_)
  k_with "subscriptTail Name Name ref int" => (refine Hold.out ?_)
  k_with "call type:list" => ((k_here; (with_reducible show wpAny _ _ (call (Value.type _) [Value.ref _]) _ _ _); k_dflt (refine' listRev_I ?h ?F ?N ?o ?e ?l ?z ?_; (case h => exact rfl); (case F => k_asm); (case N => assumption); (case o => assumption); (case e => k_mem); (case l => assumption); (case z => assumption)); intro _ _ _ _ _ _ _ _ _; walk_at "my lt"; (try dsimp only)))
  exact True.intro
section
noncomputable def dueTail : Option (List Stmt × Scope) :=
  match Challenge.pw_pg0127_01.main.body.find? (fun st => match st with | .FunctionDef n .. => n == "_law_due" | _ => false) with
  | some (.FunctionDef _ _ body _ _ _ sc _ _ _) => (match (body : List Stmt).drop 10 with | Stmt.For _ _ tb _ _ :: _ => some ((tb : List Stmt).drop 2, sc) | _ => none)
  | _ => none
noncomputable def DueOut (nm : List Str) (g : Heap) (L : Addr) (m : Str → Option Value) (s : Shared) (du : Addr) (k : Nat) (rs : List Value) (rest fos : List (Addr × Obj)) (e : Dat) (fr : Int) (f : Flow) (s₂ : Shared) : Prop :=
  f = .next ∧ ∃ h' tk m' os' v tf, s₂ = { s with heap := h', toks := tk } ∧ Fr g L h' m' ∧ News g L h' ((du, W.listOf (rs ++ [v]).toArray (k + 1)) :: (os' ++ rest)) ∧ (∀ p ∈ os', p.1 ≠ du ∧ ∀ q ∈ rest, q.1 ≠ p.1) ∧
    DatIn (os' ++ fos) v e ∧ m' (Str.ofString "front") = some (.int fr tf) ∧ ∀ z, z ∉ nm → m' z = m z
theorem news_tl {h₀ h : Heap} {L : Addr} {x : Addr × Obj} {r : List (Addr × Obj)} (N : News h₀ L h (x :: r)) : News h₀ L h r := fun p hp => N p (.tail _ hp)
theorem due_end {g h' : Heap} {L : Addr} {m m' : Str → Option Value} {s : Shared} {tk k kE kD kT : Nat} {du E T D : Addr} {rs vw : List Value} {rest fos : List (Addr × Obj)} {x1 x2 x3 : Addr × Obj} {fv : Value} {fd : Dat} {gz f0 lo frn : Int} {tg t0 tl tf : Tok} {cs : List Int}
    (F : Fr g L h' m') (N : News g L h' ((E, W.listOf [Value.ref T, .int gz tg, .ref D, fv].toArray kE) :: (T, ({ cls := .type "tuple", data := .seq [Value.int f0 t0, .int lo tl].toArray kT } : Obj)) :: (D, W.listOf vw.toArray kD) :: x1 :: x2 :: x3 :: (du, W.listOf (rs ++ [Value.ref E]).toArray (k + 1)) :: rest))
    (e1 : du ≠ E) (e2 : LtAll rest E) (t1 : du ≠ T) (t2 : LtAll rest T) (d1 : du ≠ D) (d2 : LtAll rest D) (hw : IntsAre vw cs) (hf : DatIn fos fv fd) (hfr : m' (Str.ofString "front") = some (.int frn tf)) (hm : ∀ z, z ∉ (["codes", "parted", "front"] : List Str) → m' z = m z) :
    DueOut ["codes", "parted", "front"] g L m s du k rs rest fos (.list [.tuple [.int f0, .int lo], .int gz, .list (cs.map Dat.int), fd]) frn .next { s with heap := h', toks := tk } := by
  refine ⟨rfl, h', tk, m', [(E, W.listOf [Value.ref T, .int gz tg, .ref D, fv].toArray kE), (T, ({ cls := .type "tuple", data := .seq [Value.int f0 t0, .int lo tl].toArray kT } : Obj)), (D, W.listOf vw.toArray kD)], .ref E, tf, rfl, F, ?_, ?_, ?_, hfr, hm⟩
  · intro p hp
    refine N p ?_
    simp only [List.mem_cons, List.cons_append, List.nil_append] at hp ⊢
    rcases hp with hp | hp | hp | hp | hp <;> simp [hp]
  · intro p hp
    simp only [List.mem_cons, List.not_mem_nil, or_false] at hp
    rcases hp with rfl | rfl | rfl
    · exact ⟨Ne.symm e1, fun q hq => Nat.ne_of_lt (e2 q hq)⟩
    · exact ⟨Ne.symm t1, fun q hq => Nat.ne_of_lt (t2 q hq)⟩
    · exact ⟨Ne.symm d1, fun q hq => Nat.ne_of_lt (d2 q hq)⟩
  · refine .list (.head _) (.cons (.tuple (.tail _ (.head _)) (.cons (.int _ _) (.cons (.int _ _) .nil))) (.cons (.int _ _) (.cons (.list (.tail _ (.tail _ (.head _))) (dat_ints hw)) (.cons (hf.mono fun p hp => ?_) .nil))))
    exact List.mem_append_right _ hp
theorem due_tail (w : World) (mean : ExcName → Option Value) (mg mb : Str → Option Value) {body : List Stmt} {scope : Scope} (hdef : dueTail = some (body, scope)) (l : Addr) (vs : List Value) (ns : List Int) (hI : IntsAre vs ns) (hn : ns.length = 7) (hc : ∀ c ∈ ns, 0 ≤ c ∧ c < 55296) (i : Nat) (hi : i < 7) :
    ∀ (dp un : Nat) (gd : Option (List Code)) (cn : Str) (cs : Scope) (a : Addr) (ccd : Value) (cl : List (Str × Addr)) (outer : List Env) (base g : Heap) (L L' : Addr) (m : Str → Option Value) (s : Shared) (E : Value → Shared → Prop) (du : Addr) (k : Nat) (rs : List Value) (rest fos : List (Addr × Obj)) (fv : Value) (fd : Dat) (ti tw tf : Tok),
    Below (ktrTop dp un gd cn cs L a ccd cl outer) base (envX cn cs L a ccd cl :: outer) g → (Mine.hd.heap_39 w.params).In g → Top topProg loose0 mean mg mb g → dp + 12 < recursionLimit → un + 8 * 12 < cLine → g.IsList l vs.toArray →
    Fr g L' s.heap m → News g L' s.heap ((du, W.listOf rs.toArray k) :: rest) → (∀ p ∈ rest, p.1 ≠ du) → rs.length ≤ 63 → DatIn fos fv fd → (∀ p ∈ fos, p ∈ rest) →
    m (Str.ofString "line") = some (.ref l) → m (Str.ofString "turn") = some (.int (i : Int) ti) → m (Str.ofString "formulas") = some fv → m (Str.ofString "whole") = some (.int (hrn ns) tw) → m (Str.ofString "front") = some (.int (hrn (ns.take i)) tf) → m (Str.ofString "due") = some (.ref du) →
    PassesOwn (model Challenge.rw_pg0127_01.row.prog w) ((ktrTop dp un gd cn cs L a ccd cl outer).deeper (envOfC "_law_due" scope L' 138 (.ref 137))) (envOfC "_law_due" scope L' 138 (.ref 137)) E →
    wpAny (model Challenge.rw_pg0127_01.row.prog w) ((ktrTop dp un gd cn cs L a ccd cl outer).deeper (envOfC "_law_due" scope L' 138 (.ref 137))) (execs body (envOfC "_law_due" scope L' 138 (.ref 137)))
      (DueOut ["codes", "parted", "front"] g L' m s du k rs rest fos (.list [.tuple [.int (hrn (ns.take i)), .int (hrn ns - hrn (ns.take i) * 65536 ^ (7 - i))], .int (goneZ ns i), .list ((trim (rot ns i).reverse).map Dat.int), fd]) (hrn (ns.take (i + 1)))) E s := by
  have e0 : dueTail = some (_, _) := rfl
  rw [e0] at hdef
  cases hdef
  clear e0
  have hvl : vs.length = 7 := hI.length.trans hn
  w_on; k_fill
  intro dp un gd cn cs a ccd cl outer base g L L' m s E du k rs rest fos fv fd ti tw tf B' X' T' hd hu hpre F N hdu hrs hfd hfs m1 m2 m3 m4 m5 m6 hE
  have em := lay_of [(Str.ofString "line", .ref l), (Str.ofString "turn", .int (i : Int) ti), (Str.ofString "formulas", fv), (Str.ofString "whole", .int (hrn ns) tw), (Str.ofString "front", .int (hrn (ns.take i)) tf), (Str.ofString "due", .ref du)] m m rfl (by
    intro p hp
    simp only [List.mem_cons, List.not_mem_nil, or_false] at hp
    rcases hp with rfl | rfl | rfl | rfl | rfl | rfl <;> assumption)
  have F0 := F
  rw [em] at F
  simp only [lay] at F
  clear F0
  have hfront := hfd.handed
  have hbf : Builtin.Int.intBits (hrn (ns.take i)) ≤ 2 ^ 20 := bits_hrn (fun c h => hc c (List.mem_of_mem_take h)) (by rw [List.length_take]; lia)
  have hbw : Builtin.Int.intBits (hrn ns) ≤ 2 ^ 20 := bits_hrn hc (by lia)
  have hk1 : ((7 : Int) - (i : Int)).toNat ≤ 1000 := by lia
  have hk2 : (i : Int).toNat ≤ 1000 := by lia
  have h7i : i < 7 := hi
  have h0i : 0 ≤ (i : Int) := Int.natCast_nonneg i
  have hdt : (ns.drop (i : Int).toNat).length + (ns.take (i : Int).toNat).length ≤ sizeLine := by rw [List.length_drop, List.length_take, sizeLine_eq]; lia
  have hrt : (ns.drop (i : Int).toNat ++ ns.take (i : Int).toNat).length ≤ sizeLine := by rw [List.length_append]; exact hdt
  have hvz : vs.toArray.size ≤ sizeLine := by rw [List.size_toArray, hvl, sizeLine_eq]; decide
  have hrz : rs.length ≤ sizeLine := by rw [sizeLine_eq]; lia
  (try dsimp only); (try k_fold)
  k_steps
  show wpAny _ _ _ _ _ _
  refine while_trim (by assumption) (by assumption) (by assumption) ?wt ?wd hE
  case wt =>
    intro vw cw kw hIw hlw hw tkw Fw Nw
    -- <<
    by_cases hcw : cw = []
    · subst hcw
      k_steps
      show TrimStop _ _ _ _ _ _ _ _
      exact ⟨rfl, _, _, _, _, rfl, by assumption, news_tl (by assumption), hIw⟩
    · obtain ⟨yw, xw, rfl⟩ := snoc_of cw hcw
      obtain ⟨us, tv, rfl, hIus⟩ := ints_snoc hIw
      have hbt : true = true ↔ yw ++ [xw] ≠ [] := ⟨fun _ => hcw, fun _ => rfl⟩
      have hsz : (us ++ [Value.int xw tv]).length ≤ sizeLine := by
        rw [hIw.length, sizeLine_eq]
        simp only [List.length_reverse, List.length_append, List.length_drop, List.length_take] at hlw ⊢
        lia
      by_cases hx0 : xw = 0
      · subst hx0
        k_steps
        all_goals first | exact absurd rfl (by assumption) | skip
        show TrimStep _ _ _ _ _ _ _ _ _
        rename_i Fz Nz
        exact ⟨rfl, yw, by simp, (trim_zero yw).symm, _, _, us, _, rfl, Fz, fun p hp => Nz p (.tail _ hp), hIus⟩
      · k_steps
        all_goals first | exact absurd (by assumption) hx0 | skip
        show TrimStop _ _ _ _ _ _ _ _
        exact ⟨trim_keep hx0, _, _, _, _, rfl, by assumption, news_tl (by assumption), hIw⟩
    -- >>
  case wd =>
    intro vw kw hw tkw hIw Fw Nw
    k_steps
    all_goals show wpAny _ _ _ _ _ _
    all_goals refine item_at (base_list (by assumption) hpre) hI h0i (by lia) (by lia) fun t' => ?_
    all_goals k_steps
    all_goals (
      have q7 : ((7 : Int) - (i : Int)).toNat = 7 - i := by lia
      have qi : (i : Int).toNat = i := Int.toNat_natCast i
      have qf : hrn (ns.take i) * 65536 + ns.getD (i : Int).toNat 0 = hrn (ns.take (i + 1)) := by
        rw [qi, hrn_take (c := ns.getD i 0) (by rw [List.getD_eq_getElem?_getD, List.getElem?_eq_getElem (by lia)]; rfl)])
    all_goals (
      have qr : rot ns i = ns.drop (i : Int).toNat ++ ns.take (i : Int).toNat := by rw [qi]; rfl
      have q2 : (i : Int).fmod 2 = ((i % 2 : Nat) : Int) := by rw [Int.fmod_eq_emod_of_nonneg _ (by decide)]; lia
      rw [← qf, ← q7, qr]
      have ezn : ∀ z, z ∉ (["codes", "parted", "front"] : List Str) → (z ≠ Str.ofString "codes" ∧ z ≠ Str.ofString "parted" ∧ z ≠ Str.ofString "front") := by
        intro z hz; simp only [List.mem_cons, List.not_mem_nil, or_false, not_or] at hz; exact hz)
    · rename_i hod _ _ _ _ _ _ _ _ _ _ F9 N9
      have hg : goneZ ns i = hrn ns * 65536 ^ (i : Int).toNat + hrn (ns.take i) := by
        unfold goneZ; rw [if_pos (by lia), qi]
      rw [hg]
      refine due_end F9 N9 (by assumption) (by assumption) (by assumption) (by assumption) (by assumption) (by assumption) hIw hfd rfl ?_
      intro z hz
      obtain ⟨z1, z2, z3⟩ := ezn z hz
      simp only [if_neg z1, if_neg z2, if_neg z3]
      have q := congrFun em z
      simp only [lay, if_neg z3] at q
      exact q.symm
    · rename_i hod _ _ _ _ _ _ _ _ _ _ F9 N9
      have hg : goneZ ns i = hrn (ns.take i) := by
        unfold goneZ; rw [if_neg (by lia)]
      rw [hg]
      refine due_end F9 N9 (by assumption) (by assumption) (by assumption) (by assumption) (by assumption) (by assumption) hIw hfd rfl ?_
      intro z hz
      obtain ⟨z1, z2, z3⟩ := ezn z hz
      simp only [if_neg z1, if_neg z2, if_neg z3]
      have q := congrFun em z
      simp only [lay, if_neg z3] at q
      exact q.symm
end
end
section
theorem word29 : True := by
  k_with_none
  k_with "my enter" => ((refine wpAny_call ?_; refine' enterP ?k1 ?k2 ?k3 ?k5 ?kA ?kF ?kK ?k6 ?k7 ?k8 ?k9 ?kB ?_ ?c2 ?c3 ?c4 ?c5; (case kA => exact rfl); (case kF => exact rfl); (case kK => assumption); (case k1 => k_asm); (case k2 => k_asm); (case k3 => k_asm); (case k5 => k_asm); (case k6 => k_is); (case k7 => k_is); (case k8 => ktr_room); (case k9 => exact BindsTo.of_eq rfl); (case c5 => decide); (case kB => exact locs rfl); (case c2 => exact rfl); (case c3 => exact rfl); (case c4 => exact rfl); k_whole))
  k_with "my use" => (((case k1 => k_asm); (case k2 => k_asm); (case k3 => k_asm); (case k4 => k_asm); (case k5 => k_asm); (case kK => first | exact rfl | assumption); (case kd => ktr_room); (case ku => ktr_units)))
  k_with "pyIter ref" => (refine Hold.out ?_)
  k_with "UnrEnd" => (refine Hold.out ?_)
  k_with "callWith" => (((with_reducible show wpAny _ _ (callWith _ (Prod.fst _) (Prod.snd _) _ _) _ _ _); dsimp only; (with_reducible refine callWith_method1 ?_ ?he ?hp); (case he => rfl); (case hp => rfl)))
  k_with "call builtin:list.append" => (((show wpAny _ _ (call (Value.builtin "list.append") [Value.ref _, _]) _ _ _); k_dflt (refine' append_list ?k1 ?k2 ?k3 ?z ?_; (case k1 => k_asm); (case k2 => k_asm); (case k3 => k_upd); (case z => walk_at "my size"); k_whole); intro _ _ _; (try dsimp only)))
  k_with "my size" => (first | with_reducible assumption | exact Nat.le_of_ble_eq_true rfl | (rw [sizeLine_eq]; omega))
  k_with "my fits" => (first | with_reducible assumption | omega)
  k_with "newList" => ((k_dflt (refine' newl_made ?k1 ?k2 ?_ ?z; (case k1 => k_asm); (case k2 => k_asm); (case z => walk_at "my size"); k_whole); intro _ _ _ _ _; (try dsimp only)))
  k_with "call type:reversed" => ((k_here; (with_reducible show wpAny _ _ (call (Value.type _) [Value.ref _]) _ _ _); k_dflt (refine' krv_reversed ?F ?N ?l ?_; (case F => k_asm); (case N => k_asm); (case l => is_list)); intro _ _ _ _ _))
  k_with "call builtin:list.reverse" => (((show wpAny _ _ (call (Value.builtin "list.reverse") [Value.ref _]) _ _ _); k_dflt (refine' rev_made ?k1 ?k2 ?k3 ?z ?_; (case k1 => k_asm); (case k2 => k_asm); (case k3 => k_upd); (case z => walk_at "my size"); k_whole); intro _ _ _; (try dsimp only)))
  k_with "call builtin:len" => (((show wpAny _ _ (call (Value.builtin "len") [Value.ref _]) _ _ _); k_dflt (refine' len_made ?k1 ?k2 ?k3 ?k4 ?_; (case k1 => k_asm); (case k2 => k_mem); (case k3 => (first | exact rfl | assumption)); (case k4 => first | decide | walk_at "my fits")); (try dsimp only)))
  k_with "call builtin:list.pop" => (((show wpAny _ _ (call (Value.builtin "list.pop") [Value.ref _]) _ _ _); k_dflt (refine' pop_made ?k1 ?k2 ?k3 ?z ?_; (case k1 => k_asm); (case k2 => k_asm); (case k3 => k_upd); (case z => walk_at "my size"); k_whole); intro _ _ _; (try dsimp only)))
  k_with "binaryOp Add ref ref" => (((with_reducible show wpAny _ _ (binaryOp _ (Value.ref _) (Value.ref _)) _ _ _); k_dflt (refine' add_made ?k1 ?k2 ?k3 ?k4 ?z ?_; (case k1 => k_asm); (case k2 => k_asm); (case k3 => k_mem); (case k4 => k_mem); (case z => walk_at "my size"); k_whole); intro _ _ _ _ _; (try dsimp only)))
  k_with "newList" => ((k_dflt (refine' newl_made ?k1 ?k2 ?_ ?z; (case k1 => k_asm); (case k2 => k_asm); (case z => walk_at "my size"); k_whole); intro _ _ _ _ _; walk_at "my of"; walk_at "my lt"; (try dsimp only)))
  k_with "call type:reversed" => ((k_here; (with_reducible show wpAny _ _ (call (Value.type _) [Value.ref _]) _ _ _); k_dflt (refine' krv_reversed ?F ?N ?l ?_; (case F => k_asm); (case N => k_asm); (case l => is_list)); intro _ _ _ _ _; walk_at "my of"; walk_at "my lt"))
  k_with "binaryOp Add ref ref" => (((with_reducible show wpAny _ _ (binaryOp _ (Value.ref _) (Value.ref _)) _ _ _); k_dflt (refine' add_made ?k1 ?k2 ?k3 ?k4 ?z ?_; (case k1 => k_asm); (case k2 => k_asm); (case k3 => k_mem); (case k4 => k_mem); (case z => walk_at "my size"); k_whole); intro _ _ _ _ _; walk_at "my of"; walk_at "my lt"; (try dsimp only)))
  k_with "newTuple" => ((k_here; k_dflt (refine' kup_newTuple ?F ?N ?_ ?z; (case F => k_asm); (case N => k_asm); (case z => exact Nat.le_of_ble_eq_true rfl)); intro _ _ _ _ _; walk_at "my of"; walk_at "my lt"; (try dsimp only)))
  k_with "call ref" => (refine Hold.out ?_)
  k_with "subscriptTail Name UnaryOp ref int" => (((with_reducible show wpAny _ _ (subscriptTail _ _ (Value.ref _) (Value.int _ _)) _ _ _); k_dflt (refine' item_back ?k1 ?k2 ?k3 ?_; (case k1 => k_asm); (case k2 => k_mem); (case k3 => assumption)); intro _; (try dsimp only)))
  k_with "call builtin:min" => ((k_here; (with_reducible show wpAny _ _ (call (Value.builtin _) [Value.ref _]) _ _ _); k_dflt (refine' kso_min ?k1 ?k2 ?k3 ?k4 ?k5 ?k6 ?_; (case k1 => k_asm); (case k2 => k_asm); (case k3 => exact News.isList (by assumption) (by k_mem)); (case k4 => assumption); (case k5 => assumption); (case k6 => exact rfl)); intro _ _ _ _ _ _ _ _; (try dsimp only)))
  k_with "call builtin:max" => ((k_here; (with_reducible show wpAny _ _ (call (Value.builtin _) [Value.ref _]) _ _ _); k_dflt (refine' kso_max ?k1 ?k2 ?k3 ?k4 ?k5 ?k6 ?_; (case k1 => k_asm); (case k2 => k_asm); (case k3 => exact News.isList (by assumption) (by k_mem)); (case k4 => assumption); (case k5 => assumption); (case k6 => exact rfl)); intro _ _ _ _ _ _ _ _; (try dsimp only)))
  k_with "subscriptTail Name Constant ref int" => (((with_reducible show wpAny _ _ (subscriptTail _ _ (Value.ref _) (Value.int 7 _)) _ _ _); k_dflt (refine' item_7 ?k1 ?k2 ?k3 ?_; (case k1 => k_asm); (case k2 => k_mem); (case k3 => assumption)); intro _; (try dsimp only)))
  k_with "exec For Name Call cons nil" => ((k_dflt (refine' For_cell ?F ?c ?_ ?s; (case c => exact rfl); (case F => k_asm); (case s => (intro _; exact rfl)); k_whole)))
  k_with "eval ListComp" => (refine Hold.out ?_)
  k_with "compareOp NotEq ref ref" => (((with_reducible show wpAny _ _ (compareOp _ (Value.ref _) (Value.ref _)) _ _ _); k_dflt (refine' ne_ints ?n ?a ?b ?c ?d ?e ?_; (case n => k_asm); (case a => k_mem); (case b => k_mem); (case c => assumption); (case d => assumption); (case e => ktr_units)); (try dsimp only)))
  k_with "binaryOp Mult int int" => (((with_reducible show wpAny _ _ (binaryOp _ (Value.int _ _) (Value.int (65536 ^ _) _)) _ _ _); k_dflt (refine r_mulP (by with_reducible assumption) (by with_reducible assumption) ?_); (try dsimp only)))
  k_with "binaryOp Mult int int" => (((with_reducible show wpAny _ _ (binaryOp _ (Value.int _ _) (Value.int 65536 _)) _ _ _); refine r_mul16 ?_; (try dsimp only)))
  k_with "exec While Compare cons nil" => (refine Hold.out ?_)
  k_with "exec While BoolOp cons nil" => (refine Hold.out ?_)
  k_with "subscriptTail Name Slice ref ref" => ((k_here; (with_reducible show wpAny _ _ (subscriptTail _ (PySem.Expr.Slice _ _ none _) (Value.ref _) (Value.ref _)) _ _ _); k_dflt (refine' kmk_slice_ints ?F ?N ?l ?p ?q ?i ?m ?c ?_ ?s ?t ?z; (case F => k_asm); (case N => k_asm); (case l => exact base_list (by k_asm) (by assumption)); (case p => kmk_part); (case q => kmk_part); (case i => assumption); (case m => first | exact kmk_upto (by assumption) (by assumption) | exact kmk_from (by assumption) (by assumption)); (case c => kmk_len); (case s => with_unfolding_all rfl); (case t => kmk_pure); (case z => assumption)); intro _ _ _ _ _ _ _ _ _; walk_at "my of"; walk_at "my lt"; (try dsimp only)))
  k_with "binaryOp Add ref ref" => (((with_reducible show wpAny _ _ (binaryOp _ (Value.ref _) (Value.ref _)) _ _ _); k_dflt (refine' add_ints ?k1 ?k2 ?k3 ?k4 ?i1 ?i2 ?z ?_; (case k1 => k_asm); (case k2 => k_asm); (case k3 => k_mem); (case k4 => k_mem); (case i1 => assumption); (case i2 => assumption); (case z => assumption); k_whole); intro _ _ _ _ _ _; walk_at "my lt"; (try dsimp only)))
  k_with "binaryOp Add ref ref" => (((with_reducible show wpAny _ _ (binaryOp _ (Value.ref _) (Value.ref _)) _ _ _); k_dflt (refine' add_base ?k1 ?k2 ?k3 ?k4 ?z ?_; (case k1 => k_asm); (case k2 => k_asm); (case k3 => assumption); (case k4 => assumption); (case z => assumption); k_whole); intro _ _ _ _ _; walk_at "my lt"; (try dsimp only)))
  k_with "subscriptTail Name BinOp ref int" => (refine Hold.out ?_)
  k_with "subscriptTail BinOp Slice ref ref" => (refine Hold.out ?_)
  k_with "last subscriptTail" => (refine Hold.out ?_)
  k_with "call builtin:list.index" => (((show wpAny _ _ (call (Value.builtin "list.index") [Value.ref _, Value.int _ _]) _ _ _); k_dflt (refine' index_list_ints ?a ?b ?c ?d ?_; (case a => exact News.isList (by assumption) (by k_mem)); (case b => assumption); (case c => assumption); (case d => assumption)); (try dsimp only)))
  k_with "compareOp In int ref" => (refine Hold.out ?_)
  k_with "CompSrc" => (refine Hold.out ?_)
  k_with "CompSrcT" => (refine Hold.out ?_)
  k_with "subscriptTail Name Name ref int" => (refine Hold.out ?_)
  k_with "call type:list" => ((k_here; (with_reducible show wpAny _ _ (call (Value.type _) [Value.ref _]) _ _ _); k_dflt (refine' listRev_I ?h ?F ?N ?o ?e ?l ?z ?_; (case h => exact rfl); (case F => k_asm); (case N => assumption); (case o => assumption); (case e => k_mem); (case l => assumption); (case z => assumption)); intro _ _ _ _ _ _ _ _ _; walk_at "my lt"; (try dsimp only)))
  exact True.intro
section
variable {prog : Program} {w : World} {A : Around} {E : Value → Shared → Prop} {s : Shared} {env : Env} {h₀ : Heap} {x : Str} {body : List Stmt} {Q : Flow → Shared → Prop}
noncomputable def FDoff (fl : Addr) (hd : List (Addr × Obj)) (Es : Nat → List Dat) (i : Nat) (d : FD) : Prop := DatAll d.os d.rs (Es i) ∧ (∀ p ∈ d.os, p.1 ≠ fl) ∧ ∀ p ∈ d.os, ∀ q ∈ hd, q.1 ≠ p.1
/-- a loop over a range that fills a made list with made things, these off all that stands -/
theorem range_fillO {r : Addr} {a₀ b₀ : Int} {t₀ u₀ v₀ : Tok} {n : Nat} {m₀ : Str → Option Value} {fl : Addr} {k0 : Nat} (names : List Str) (Es : Nat → List Dat) (hd : List (Addr × Obj))
    (hh : A.handled = none) (hr : IsRange s.heap r a₀ b₀ 1 t₀ u₀ v₀) (hsmall : Builtin.Range.small a₀ b₀ 1 = true) (hn : Builtin.Range.rangeSize a₀ b₀ 1 = (n : Int)) (F : Fr h₀ env.locals s.heap m₀) (N : News h₀ env.locals s.heap ((fl, W.listOf #[] k0) :: hd))
    (h0 : Es 0 = [])
    (turn : ∀ I : Addr, ∀ i, i < n → ∀ u d, FDoff fl hd Es i d → (∀ p ∈ (fl, W.listOf d.rs.toArray d.k) :: (d.os ++ hd), p.1 ≠ I) → ∀ t h tk, Fr h₀ env.locals h (fun y => if y = x then some (.int (a₀ + (i : Int)) t) else ovr names u m₀ y) →
      News h₀ env.locals h ((I, itR (a₀ + ((i + 1 : Nat) : Int)) ((n : Int) - ((i + 1 : Nat) : Int))) :: (fl, W.listOf d.rs.toArray d.k) :: (d.os ++ hd)) →
      wpAny (model prog w) A (execs body env) (UnrPost h₀ env.locals { s with heap := h, toks := tk } I (itR (a₀ + ((i + 1 : Nat) : Int)) ((n : Int) - ((i + 1 : Nat) : Int))) (TurnedK names m₀ (fun _ : FD => []) (fun d => (fl, W.listOf d.rs.toArray d.k) :: (d.os ++ hd)) (FDoff fl hd Es (i + 1))) Q) E { s with heap := h, toks := tk })
    (done : ∀ u d, FDoff fl hd Es n d → ∀ h tk, Fr h₀ env.locals h (ovr names u m₀) → News h₀ env.locals h ((fl, W.listOf d.rs.toArray d.k) :: (d.os ++ hd)) → Q .next { s with heap := h, toks := tk }) :
    wpAny (model prog w) A (pyIter (.ref r)) (fun it s₂ => LoopAtV prog w A h₀ env x body Q E it s₂) E s :=
  range_dataO names (fun _ : FD => []) (fun d => (fl, W.listOf d.rs.toArray d.k) :: (d.os ++ hd)) (FDoff fl hd Es) ⟨[], [], k0⟩ hh hr hsmall hn F N (fun _ h => nomatch h) ⟨by rw [h0]; exact .nil, (fun _ h => nomatch h), fun _ h => nomatch h⟩
    (fun I hI i hi u d hd' off t h tk F₁ N₁ => turn I i hi u d hd' off t h tk F₁ N₁) (fun u d hd' h tk F₁ N₁ => done u d hd' h tk F₁ N₁)
end
theorem fill_end {g h' : Heap} {L I fl Dz : Addr} {it : Obj} {m₀ m' : Str → Option Value} {s₁ : Shared} {tk i k : Nat} {all hd os : List (Addr × Obj)} {rs wz : List Value} {ns : List (List Int)} {xs : List Int} {names : List Str} {Es : Nat → List Dat}
    (F : Fr g L h' m') (N : News g L h' all) (hI : (I, it) ∈ all) (hf : (fl, W.listOf (rs ++ [Value.ref Dz]).toArray (k + 1)) ∈ all) (hD : (Dz, W.listOf wz.toArray 0) ∈ all) (ho : ∀ p ∈ os ++ hd, p ∈ all)
    (o1 : fl ≠ I) (o2 : Dz ≠ I) (o3 : ∀ p ∈ os ++ hd, p.1 ≠ I) (hm : ∀ z, z ∉ names → m' z = m₀ z) (d1 : DatAll os rs (Es i)) (d2 : ∀ p ∈ os, p.1 ≠ fl) (d3 : ∀ p ∈ os, ∀ q ∈ hd, q.1 ≠ p.1) (d4 : Dz ≠ fl) (d5 : ∀ q ∈ hd, q.1 ≠ Dz) (hS : IntsAre wz xs) (e1 : Es i = datLL ns) (e2 : Es (i + 1) = datLL (ns ++ [xs])) :
    UnrEnd g L s₁ I it (TurnedK names m₀ (fun _ : FD => []) (fun d => (fl, W.listOf d.rs.toArray d.k) :: (d.os ++ hd)) (FDoff fl hd Es (i + 1))) { s₁ with heap := h', toks := tk } := by
  refine turn_endK (⟨rs ++ [.ref Dz], (Dz, W.listOf wz.toArray 0) :: os, k + 1⟩ : FD) F N hI ?q1 ?q2 hm (fun _ h => nomatch h) ⟨?q4, List.forall_mem_cons.mpr ⟨d4, d2⟩, List.forall_mem_cons.mpr ⟨d5, d3⟩⟩
  case q1 => exact List.forall_mem_cons.mpr ⟨hf, List.forall_mem_cons.mpr ⟨hD, ho⟩⟩
  case q2 => exact List.forall_mem_cons.mpr ⟨o1, List.forall_mem_cons.mpr ⟨o2, o3⟩⟩
  case q4 => (show DatAll _ _ (Es (i + 1)); rw [e2]; rw [e1] at d1; exact dat_push d1 hS)
noncomputable def dueTurn : Option (List Stmt × Scope) :=
  match Challenge.pw_pg0127_01.main.body.find? (fun st => match st with | .FunctionDef n .. => n == "_law_due" | _ => false) with
  | some (.FunctionDef _ _ body _ _ _ sc _ _ _) => (match (body : List Stmt).drop 10 with | Stmt.For _ _ tb _ _ :: _ => some ((tb : List Stmt), sc) | _ => none)
  | _ => none
theorem due_join {g : Heap} {L : Addr} {m m' : Str → Option Value} {s s' : Shared} {du : Addr} {k : Nat} {rs : List Value} {rest fos : List (Addr × Obj)} {e : Dat} {fr : Int} {f : Flow} {s₂ : Shared} {h : Heap} {tk : Nat}
    (es : s' = { s with heap := h, toks := tk }) (X : DueOut ["codes", "parted", "front"] g L m' s' du k rs (fos ++ rest) fos e fr f s₂) (h1 : ∀ p ∈ fos, p.1 ≠ du) (h2 : ∀ p ∈ fos, ∀ q ∈ rest, q.1 ≠ p.1) (hm : ∀ z, z ∉ (["first", "k", "formulas"] : List Str) → m' z = m z) :
    DueOut ["turn", "formulas", "first", "k", "codes", "parted", "front"] g L m s du k rs rest [] e fr f s₂ := by
  obtain ⟨rfl, h', tk', m'', os', v, tf, rfl, F, N, off, hD, hf, hz⟩ := X
  subst es
  refine ⟨rfl, h', tk', m'', os' ++ fos, v, tf, rfl, F, ?_, ?_, ?_, hf, ?_⟩
  · rw [List.append_assoc]; exact N
  · intro p hp
    rcases List.mem_append.mp hp with hp | hp
    · exact ⟨(off p hp).1, fun q hq => (off p hp).2 q (List.mem_append_right _ hq)⟩
    · exact ⟨h1 p hp, h2 p hp⟩
  · rw [List.append_nil]; exact hD
  · intro z hzn
    simp only [List.mem_cons, List.not_mem_nil, or_false, not_or] at hzn
    obtain ⟨_, z2, z3, z4, z5, z6, z7⟩ := hzn
    rw [hz z (by simp [z5, z6, z7]), hm z (by simp [z2, z3, z4])]
section
theorem word30 : True := by
  k_with "execs cons" => (((with_reducible show wpAny _ _ (execs (Stmt.Assign [Expr.Name (Str.ofString "codes") _] _ _ :: _) _) _ _ _); refine Hold.out ?_))
  exact True.intro
theorem due_turn (w : World) (mean : ExcName → Option Value) (mg mb : Str → Option Value) {body : List Stmt} {scope : Scope} (hdef : dueTurn = some (body, scope)) (l : Addr) (vs : List Value) (ns : List Int) (M : Int) (hI : IntsAre vs ns) (hn : ns.length = 7) (hc : ∀ c ∈ ns, 0 ≤ c ∧ c < 55296) (i : Nat) (hi : i < 7) :
    ∀ (dp un : Nat) (gd : Option (List Code)) (cn : Str) (cs : Scope) (a : Addr) (ccd : Value) (cl : List (Str × Addr)) (outer : List Env) (base g : Heap) (L L' : Addr) (m : Str → Option Value) (s : Shared) (E : Value → Shared → Prop) (du : Addr) (k : Nat) (rs : List Value) (rest : List (Addr × Obj)) (ti tw tf : Tok) (pl ar : Addr) (pv av : List Value) (kp ka : Nat),
    Below (ktrTop dp un gd cn cs L a ccd cl outer) base (envX cn cs L a ccd cl :: outer) g → (Mine.hd.heap_39 w.params).In g → Top topProg loose0 mean mg mb g → dp + 12 < recursionLimit → un + 8 * 12 < cLine → g.IsList l vs.toArray →
    Fr g L' s.heap m → News g L' s.heap ((du, W.listOf rs.toArray k) :: rest) → (∀ p ∈ rest, p.1 ≠ du) → rs.length ≤ 63 →
    (pl, W.listOf pv.toArray kp) ∈ rest → IntsAre pv (pls ns M (cnt ns 7).toNat) → (ar, W.listOf av.toArray ka) ∈ rest → IntsAre av (arnd ns M) →
    m (Str.ofString "line") = some (.ref l) → m (Str.ofString "turn") = some (.int (i : Int) ti) → m (Str.ofString "whole") = some (.int (hrn ns) tw) → m (Str.ofString "front") = some (.int (hrn (ns.take i)) tf) → m (Str.ofString "due") = some (.ref du) →
    m (Str.ofString "places") = some (.ref pl) → m (Str.ofString "around") = some (.ref ar) →
    PassesOwn (model Challenge.rw_pg0127_01.row.prog w) ((ktrTop dp un gd cn cs L a ccd cl outer).deeper (envOfC "_law_due" scope L' 138 (.ref 137))) (envOfC "_law_due" scope L' 138 (.ref 137)) E →
    wpAny (model Challenge.rw_pg0127_01.row.prog w) ((ktrTop dp un gd cn cs L a ccd cl outer).deeper (envOfC "_law_due" scope L' 138 (.ref 137))) (execs body (envOfC "_law_due" scope L' 138 (.ref 137)))
      (DueOut ["turn", "formulas", "first", "k", "codes", "parted", "front"] g L' m s du k rs rest [] (entD ns M i) (hrn (ns.take (i + 1)))) E s := by
  have e0 : dueTurn = some (_, _) := rfl
  rw [e0] at hdef
  cases hdef
  clear e0
  have hvl : vs.length = 7 := hI.length.trans hn
  w_on; k_fill
  intro dp un gd cn cs a ccd cl outer base g L L' m s E du k rs rest ti tw tf pl ar pv av kp ka B' X' T' hd hu hpre F N hdu hrs hplm hPI harm hAr m1 m2 m4 m5 m6 m7 m8 hE
  have em := lay_of [(Str.ofString "line", .ref l), (Str.ofString "turn", .int (i : Int) ti), (Str.ofString "whole", .int (hrn ns) tw), (Str.ofString "front", .int (hrn (ns.take i)) tf), (Str.ofString "due", .ref du), (Str.ofString "places", .ref pl), (Str.ofString "around", .ref ar)] m m rfl (by
    intro p hp
    simp only [List.mem_cons, List.not_mem_nil, or_false] at hp
    rcases hp with rfl | rfl | rfl | rfl | rfl | rfl | rfl <;> assumption)
  have F0 := F
  rw [em] at F
  simp only [lay] at F
  clear F0
  have hmz : ∀ z, lay [(Str.ofString "line", .ref l), (Str.ofString "turn", .int (i : Int) ti), (Str.ofString "whole", .int (hrn ns) tw), (Str.ofString "front", .int (hrn (ns.take i)) tf), (Str.ofString "due", .ref du), (Str.ofString "places", .ref pl), (Str.ofString "around", .ref ar)] m z = m z := fun z => (congrFun em z).symm
  simp only [lay] at hmz
  have hR : (cnt ns 7).toNat ≤ 7 := by have := cnt_bound ns 7; lia
  have hPl := hPI.length
  rw [pls_length] at hPl
  have hR0 : 0 ≤ cnt ns 7 ∨ (cnt ns 7).toNat = 0 := by lia
  (try dsimp only); (try k_fold)
  k_steps
  show wpAny _ _ _ _ _ _
  by_cases hin : (i : Int) ∈ pls ns M (cnt ns 7).toNat
  · refine in_ints (b := true) (by assumption) (by k_mem) hPI (by simp [hin]) (by ktr_units) ?_
    (try dsimp only)
    have hlay : PyData.layable0 (.list ((pls ns M (cnt ns 7).toNat).map .int)) = true := lay_small (pls_small ns M _) (by rw [pls_length]; lia)
    k_steps
    show wpAny _ _ _ _ _ _
    have hidx := List.idxOf_lt_length_iff.mpr hin
    rw [pls_length] at hidx
    have hfs := fill_small (p := (pls ns M (cnt ns 7).toNat).idxOf (i : Int)) (l := pv.length) (by lia) (by lia)
    have hArl := arnd_length ns M
    have hII := hI.append hI
    have hvv : vs.length + vs.length ≤ sizeLine := by rw [hvl, sizeLine_eq]; decide
    have hvz2 : (vs ++ vs).toArray.size ≤ sizeLine := by rw [List.size_toArray, List.length_append]; exact hvv
    refine range_fillO (n := pv.length) ["k"] (fun j => datLL (fms ns M ((pls ns M (cnt ns 7).toNat).idxOf (i : Int)) j)) _ rfl (by assumption) hfs.1 hfs.2 (by assumption) (by assumption) rfl ?turn2 ?done2
    case turn2 =>
      intro I2 j hj u2 d2 hd2 hoff2 t2 h2 tk2 F2 N2
      -- <<
      simp only [ovr] at F2
      obtain ⟨hD2, hfl2, hof2⟩ := hd2
      have hofI : NeAll _ I2 := hoff2
      obtain ⟨hI2a, hI2b⟩ := List.forall_mem_cons.mp hoff2
      obtain ⟨hI2c, hI2d⟩ := List.forall_mem_append.mp hI2b
      obtain ⟨hI2e, hI2f⟩ := List.forall_mem_cons.mp hI2d
      dsimp only at hI2a hI2e
      have hj2 : j < (cnt ns 7).toNat := by lia
      have hrs2 : d2.rs.length ≤ sizeLine := by
        have h1 := hD2.length
        simp only [datLL, fms, List.length_map, List.length_range] at h1
        rw [h1, sizeLine_eq]; lia
      have hb1 : (pls ns M (cnt ns 7).toNat).idxOf (i : Int) + j < (arnd ns M).length := by lia
      have hb2 : (pls ns M (cnt ns 7).toNat).idxOf (i : Int) + j + 1 < (arnd ns M).length := by lia
      have hb3 : (arnd ns M).length < 2 ^ 62 := Nat.lt_of_le_of_lt (show (arnd ns M).length ≤ 14 by lia) (by decide)
      k_steps
      show wpAny _ _ _ _ _ _
      refine item_nat (by assumption) (by k_mem) ‹IntsAre av _› (by rw [Int.natCast_add]) hb1 hb3 fun t3 => ?_
      (try dsimp only)
      k_steps
      show wpAny _ _ _ _ _ _
      refine item_nat (by assumption) (by k_mem) ‹IntsAre av _› (n := (pls ns M (cnt ns 7).toNat).idxOf (i : Int) + j + 1) (by rw [Int.natCast_add, Int.natCast_add]; rfl) hb2 hb3 fun t4 => ?_
      (try dsimp only)
      k_steps
      show wpAny _ _ _ _ _ _
      refine kba_turn (value' := Expr.Name (Str.ofString "_") ⟨0, 0, 0, 0⟩) (fun _ => rfl) ?_
      refine kmk_slice_ints (by assumption) (by assumption) (News.isList (by assumption) (by k_mem)) (IsPart.int _ _) (IsPart.int _ _) hII (kmk_run hII (arnd_nonneg _ _ _) (arnd_nonneg _ _ _)) rfl ?_ (by with_unfolding_all rfl) (fun _ => rfl) hvz2
      intro Dz wz h' F' N' lz hSz hCz hLz
      replace lz := LtAll.of lz
      walk_at "my lt"
      (try dsimp only)
      k_steps
      show UnrEnd _ _ _ _ _ _ _
      have lD := ‹LtAll (d2.os ++ (du, W.listOf rs.toArray k) :: rest) Dz›
      refine fill_end (by assumption) (by assumption) (by k_mem) (by k_mem) (by k_mem) (fun p hp => .tail _ (.tail _ (.tail _ (.tail _ hp)))) hI2a (by k_ne) hI2b ?q3 hD2 hfl2 hof2 (by k_ne) (fun q hq => Nat.ne_of_lt (lD q (List.mem_append_right _ hq))) hSz rfl ?q5
      case q3 => (intro z hz; simp only [List.mem_cons, List.not_mem_nil, or_false, not_or] at hz; simp only [if_neg hz])
      case q5 => (show datLL (fms ns M _ (j + 1)) = _; rw [fms_succ]; rfl)
      -- >>
    case done2 =>
      intro u2 d2 hd2 h2 tk2 F2 N2
      simp only [ovr] at F2
      rw [hPl] at hd2
      obtain ⟨hD2, hfl2, hof2⟩ := hd2
      k_steps
      show wpAny _ _ _ _ _ _
      have eE : entD ns M i = .list [.tuple [.int (hrn (ns.take i)), .int (hrn ns - hrn (ns.take i) * 65536 ^ (7 - i))], .int (goneZ ns i), .list ((trim (rot ns i).reverse).map Dat.int), .list (datLL (fms ns M ((pls ns M (cnt ns 7).toNat).idxOf (i : Int)) (cnt ns 7).toNat))] := by
        unfold entD fmsD; rw [if_pos hin]
      have o1 : ∀ p ∈ (_, W.listOf d2.rs.toArray d2.k) :: d2.os, p.1 ≠ du := List.forall_mem_cons.mpr ⟨Ne.symm (by with_reducible assumption), fun p hp => Ne.symm (hof2 p hp _ (.head _))⟩
      have o2 : ∀ p ∈ (_, W.listOf d2.rs.toArray d2.k) :: d2.os, ∀ q ∈ rest, q.1 ≠ p.1 := List.forall_mem_cons.mpr ⟨fun q hq => Nat.ne_of_lt (‹LtAll rest _› q hq), fun p hp q hq => hof2 p hp q (.tail _ hq)⟩
      have N3 : News g L' h2 ((du, W.listOf rs.toArray k) :: (((_, W.listOf d2.rs.toArray d2.k) :: d2.os) ++ rest)) := fun p hp => N2 p (by
        rcases List.mem_cons.mp hp with rfl | hp
        · exact .tail _ (List.mem_append_right _ (.head _))
        · rcases List.mem_append.mp hp with hp | hp
          · rcases List.mem_cons.mp hp with rfl | hp
            · exact .head _
            · exact .tail _ (List.mem_append_left _ hp)
          · exact .tail _ (List.mem_append_right _ (.tail _ hp)))
      refine' wpAny_mono (due_tail w mean mg mb ?hdef l vs ns hI hn hc i hi dp un gd cn cs a ccd cl outer base g L L' _ _ E du k rs _ _ (.ref _) _ ti tw tf B' X' T' hd hu hpre (by assumption) N3 ?off hrs (.list (.head _) (hD2.mono fun p hp => .tail _ hp)) (fun p hp => List.mem_append_left _ hp) rfl rfl rfl rfl rfl rfl hE) (fun f s₂ X => ?_) (fun _ _ e => e)
      case hdef => exact rfl
      case off => exact List.forall_mem_append.mpr ⟨o1, hdu⟩
      show DueOut _ _ _ _ _ _ _ _ _ _ _ _ _ _
      rw [eE]
      refine due_join rfl X o1 o2 ?_
      intro z hz
      simp only [List.mem_cons, List.not_mem_nil, or_false, not_or] at hz
      simp only [if_neg hz.1, if_neg hz.2.1, if_neg hz.2.2]
      exact hmz z
  · refine in_ints (b := false) (by assumption) (by k_mem) hPI (by simp [hin]) (by ktr_units) ?_
    (try dsimp only)
    k_steps
    show wpAny _ _ _ _ _ _
    have eE : entD ns M i = .list [.tuple [.int (hrn (ns.take i)), .int (hrn ns - hrn (ns.take i) * 65536 ^ (7 - i))], .int (goneZ ns i), .list ((trim (rot ns i).reverse).map Dat.int), .none] := by
      unfold entD fmsD; rw [if_neg hin]
    refine' wpAny_mono (due_tail w mean mg mb ?hdef l vs ns hI hn hc i hi dp un gd cn cs a ccd cl outer base g L L' _ _ E du k rs rest [] .none .none ti tw tf B' X' T' hd hu hpre (by assumption) (by assumption) hdu hrs .none (fun _ h => nomatch h) rfl rfl rfl rfl rfl rfl hE) (fun f s₂ X => ?_) (fun _ _ e => e)
    case hdef => exact rfl
    show DueOut _ _ _ _ _ _ _ _ _ _ _ _ _ _
    rw [eE]
    refine due_join (fos := []) rfl X (List.forall_mem_nil _) (List.forall_mem_nil _) ?_
    intro z hz
    simp only [List.mem_cons, List.not_mem_nil, or_false, not_or] at hz
    simp only [if_neg hz.2.2]
    exact hmz z
end
end
section
theorem word31 : True := by
  k_with_none
  k_with "my enter" => ((refine wpAny_call ?_; refine' enterP ?k1 ?k2 ?k3 ?k5 ?kA ?kF ?kK ?k6 ?k7 ?k8 ?k9 ?kB ?_ ?c2 ?c3 ?c4 ?c5; (case kA => exact rfl); (case kF => exact rfl); (case kK => assumption); (case k1 => k_asm); (case k2 => k_asm); (case k3 => k_asm); (case k5 => k_asm); (case k6 => k_is); (case k7 => k_is); (case k8 => ktr_room); (case k9 => exact BindsTo.of_eq rfl); (case c5 => decide); (case kB => exact locs rfl); (case c2 => exact rfl); (case c3 => exact rfl); (case c4 => exact rfl); k_whole))
  k_with "my use" => (((case k1 => k_asm); (case k2 => k_asm); (case k3 => k_asm); (case k4 => k_asm); (case k5 => k_asm); (case kK => first | exact rfl | assumption); (case kd => ktr_room); (case ku => ktr_units)))
  k_with "pyIter ref" => (refine Hold.out ?_)
  k_with "UnrEnd" => (refine Hold.out ?_)
  k_with "callWith" => (((with_reducible show wpAny _ _ (callWith _ (Prod.fst _) (Prod.snd _) _ _) _ _ _); dsimp only; (with_reducible refine callWith_method1 ?_ ?he ?hp); (case he => rfl); (case hp => rfl)))
  k_with "call builtin:list.append" => (((show wpAny _ _ (call (Value.builtin "list.append") [Value.ref _, _]) _ _ _); k_dflt (refine' append_list ?k1 ?k2 ?k3 ?z ?_; (case k1 => k_asm); (case k2 => k_asm); (case k3 => k_upd); (case z => walk_at "my size"); k_whole); intro _ _ _; (try dsimp only)))
  k_with "my size" => (first | with_reducible assumption | exact Nat.le_of_ble_eq_true rfl | (rw [sizeLine_eq]; omega))
  k_with "my fits" => (first | with_reducible assumption | omega)
  k_with "newList" => ((k_dflt (refine' newl_made ?k1 ?k2 ?_ ?z; (case k1 => k_asm); (case k2 => k_asm); (case z => walk_at "my size"); k_whole); intro _ _ _ _ _; (try dsimp only)))
  k_with "call type:reversed" => ((k_here; (with_reducible show wpAny _ _ (call (Value.type _) [Value.ref _]) _ _ _); k_dflt (refine' krv_reversed ?F ?N ?l ?_; (case F => k_asm); (case N => k_asm); (case l => is_list)); intro _ _ _ _ _))
  k_with "call builtin:list.reverse" => (((show wpAny _ _ (call (Value.builtin "list.reverse") [Value.ref _]) _ _ _); k_dflt (refine' rev_made ?k1 ?k2 ?k3 ?z ?_; (case k1 => k_asm); (case k2 => k_asm); (case k3 => k_upd); (case z => walk_at "my size"); k_whole); intro _ _ _; (try dsimp only)))
  k_with "call builtin:len" => (((show wpAny _ _ (call (Value.builtin "len") [Value.ref _]) _ _ _); k_dflt (refine' len_made ?k1 ?k2 ?k3 ?k4 ?_; (case k1 => k_asm); (case k2 => k_mem); (case k3 => (first | exact rfl | assumption)); (case k4 => first | decide | walk_at "my fits")); (try dsimp only)))
  k_with "call builtin:list.pop" => (((show wpAny _ _ (call (Value.builtin "list.pop") [Value.ref _]) _ _ _); k_dflt (refine' pop_made ?k1 ?k2 ?k3 ?z ?_; (case k1 => k_asm); (case k2 => k_asm); (case k3 => k_upd); (case z => walk_at "my size"); k_whole); intro _ _ _; (try dsimp only)))
  k_with "binaryOp Add ref ref" => (((with_reducible show wpAny _ _ (binaryOp _ (Value.ref _) (Value.ref _)) _ _ _); k_dflt (refine' add_made ?k1 ?k2 ?k3 ?k4 ?z ?_; (case k1 => k_asm); (case k2 => k_asm); (case k3 => k_mem); (case k4 => k_mem); (case z => walk_at "my size"); k_whole); intro _ _ _ _ _; (try dsimp only)))
  k_with "newList" => ((k_dflt (refine' newl_made ?k1 ?k2 ?_ ?z; (case k1 => k_asm); (case k2 => k_asm); (case z => walk_at "my size"); k_whole); intro _ _ _ _ _; walk_at "my of"; walk_at "my lt"; (try dsimp only)))
  k_with "call type:reversed" => ((k_here; (with_reducible show wpAny _ _ (call (Value.type _) [Value.ref _]) _ _ _); k_dflt (refine' krv_reversed ?F ?N ?l ?_; (case F => k_asm); (case N => k_asm); (case l => is_list)); intro _ _ _ _ _; walk_at "my of"; walk_at "my lt"))
  k_with "binaryOp Add ref ref" => (((with_reducible show wpAny _ _ (binaryOp _ (Value.ref _) (Value.ref _)) _ _ _); k_dflt (refine' add_made ?k1 ?k2 ?k3 ?k4 ?z ?_; (case k1 => k_asm); (case k2 => k_asm); (case k3 => k_mem); (case k4 => k_mem); (case z => walk_at "my size"); k_whole); intro _ _ _ _ _; walk_at "my of"; walk_at "my lt"; (try dsimp only)))
  k_with "newTuple" => ((k_here; k_dflt (refine' kup_newTuple ?F ?N ?_ ?z; (case F => k_asm); (case N => k_asm); (case z => exact Nat.le_of_ble_eq_true rfl)); intro _ _ _ _ _; walk_at "my of"; walk_at "my lt"; (try dsimp only)))
  k_with "call ref" => (refine Hold.out ?_)
  k_with "subscriptTail Name UnaryOp ref int" => (((with_reducible show wpAny _ _ (subscriptTail _ _ (Value.ref _) (Value.int _ _)) _ _ _); k_dflt (refine' item_back ?k1 ?k2 ?k3 ?_; (case k1 => k_asm); (case k2 => k_mem); (case k3 => assumption)); intro _; (try dsimp only)))
  k_with "call builtin:min" => ((k_here; (with_reducible show wpAny _ _ (call (Value.builtin _) [Value.ref _]) _ _ _); k_dflt (refine' kso_min ?k1 ?k2 ?k3 ?k4 ?k5 ?k6 ?_; (case k1 => k_asm); (case k2 => k_asm); (case k3 => exact News.isList (by assumption) (by k_mem)); (case k4 => assumption); (case k5 => assumption); (case k6 => exact rfl)); intro _ _ _ _ _ _ _ _; (try dsimp only)))
  k_with "call builtin:max" => ((k_here; (with_reducible show wpAny _ _ (call (Value.builtin _) [Value.ref _]) _ _ _); k_dflt (refine' kso_max ?k1 ?k2 ?k3 ?k4 ?k5 ?k6 ?_; (case k1 => k_asm); (case k2 => k_asm); (case k3 => exact News.isList (by assumption) (by k_mem)); (case k4 => assumption); (case k5 => assumption); (case k6 => exact rfl)); intro _ _ _ _ _ _ _ _; (try dsimp only)))
  k_with "subscriptTail Name Constant ref int" => (((with_reducible show wpAny _ _ (subscriptTail _ _ (Value.ref _) (Value.int 7 _)) _ _ _); k_dflt (refine' item_7 ?k1 ?k2 ?k3 ?_; (case k1 => k_asm); (case k2 => k_mem); (case k3 => assumption)); intro _; (try dsimp only)))
  k_with "exec For Name Call cons nil" => ((k_dflt (refine' For_cell ?F ?c ?_ ?s; (case c => exact rfl); (case F => k_asm); (case s => (intro _; exact rfl)); k_whole)))
  k_with "eval ListComp" => (refine Hold.out ?_)
  k_with "compareOp NotEq ref ref" => (((with_reducible show wpAny _ _ (compareOp _ (Value.ref _) (Value.ref _)) _ _ _); k_dflt (refine' ne_ints ?n ?a ?b ?c ?d ?e ?_; (case n => k_asm); (case a => k_mem); (case b => k_mem); (case c => assumption); (case d => assumption); (case e => ktr_units)); (try dsimp only)))
  k_with "binaryOp Mult int int" => (((with_reducible show wpAny _ _ (binaryOp _ (Value.int _ _) (Value.int (65536 ^ _) _)) _ _ _); k_dflt (refine r_mulP (by with_reducible assumption) (by with_reducible assumption) ?_); (try dsimp only)))
  k_with "binaryOp Mult int int" => (((with_reducible show wpAny _ _ (binaryOp _ (Value.int _ _) (Value.int 65536 _)) _ _ _); refine r_mul16 ?_; (try dsimp only)))
  k_with "exec While Compare cons nil" => (refine Hold.out ?_)
  k_with "exec While BoolOp cons nil" => (refine Hold.out ?_)
  k_with "subscriptTail Name Slice ref ref" => ((k_here; (with_reducible show wpAny _ _ (subscriptTail _ (PySem.Expr.Slice _ _ none _) (Value.ref _) (Value.ref _)) _ _ _); k_dflt (refine' kmk_slice_ints ?F ?N ?l ?p ?q ?i ?m ?c ?_ ?s ?t ?z; (case F => k_asm); (case N => k_asm); (case l => exact base_list (by k_asm) (by assumption)); (case p => kmk_part); (case q => kmk_part); (case i => assumption); (case m => first | exact kmk_upto (by assumption) (by assumption) | exact kmk_from (by assumption) (by assumption)); (case c => kmk_len); (case s => with_unfolding_all rfl); (case t => kmk_pure); (case z => assumption)); intro _ _ _ _ _ _ _ _ _; walk_at "my of"; walk_at "my lt"; (try dsimp only)))
  k_with "binaryOp Add ref ref" => (((with_reducible show wpAny _ _ (binaryOp _ (Value.ref _) (Value.ref _)) _ _ _); k_dflt (refine' add_ints ?k1 ?k2 ?k3 ?k4 ?i1 ?i2 ?z ?_; (case k1 => k_asm); (case k2 => k_asm); (case k3 => k_mem); (case k4 => k_mem); (case i1 => assumption); (case i2 => assumption); (case z => assumption); k_whole); intro _ _ _ _ _ _; walk_at "my lt"; (try dsimp only)))
  k_with "binaryOp Add ref ref" => (((with_reducible show wpAny _ _ (binaryOp _ (Value.ref _) (Value.ref _)) _ _ _); k_dflt (refine' add_base ?k1 ?k2 ?k3 ?k4 ?z ?_; (case k1 => k_asm); (case k2 => k_asm); (case k3 => assumption); (case k4 => assumption); (case z => assumption); k_whole); intro _ _ _ _ _; walk_at "my lt"; (try dsimp only)))
  k_with "subscriptTail Name BinOp ref int" => (refine Hold.out ?_)
  k_with "subscriptTail BinOp Slice ref ref" => (refine Hold.out ?_)
  k_with "last subscriptTail" => (refine Hold.out ?_)
  k_with "call builtin:list.index" => (((show wpAny _ _ (call (Value.builtin "list.index") [Value.ref _, Value.int _ _]) _ _ _); k_dflt (refine' index_list_ints ?a ?b ?c ?d ?_; (case a => exact News.isList (by assumption) (by k_mem)); (case b => assumption); (case c => assumption); (case d => assumption)); (try dsimp only)))
  k_with "compareOp In int ref" => (refine Hold.out ?_)
  k_with "CompSrc" => (refine Hold.out ?_)
  k_with "CompSrcT" => (refine Hold.out ?_)
  k_with "subscriptTail Name Name ref int" => (refine Hold.out ?_)
  k_with "call type:list" => ((k_here; (with_reducible show wpAny _ _ (call (Value.type _) [Value.ref _]) _ _ _); k_dflt (refine' listRev_I ?h ?F ?N ?o ?e ?l ?z ?_; (case h => exact rfl); (case F => k_asm); (case N => assumption); (case o => assumption); (case e => k_mem); (case l => assumption); (case z => assumption)); intro _ _ _ _ _ _ _ _ _; walk_at "my lt"; (try dsimp only)))
  exact True.intro
theorem news_swap {h₀ h : Heap} {L : Addr} {x y : Addr × Obj} {r : List (Addr × Obj)} (N : News h₀ L h (x :: y :: r)) : News h₀ L h (y :: x :: r) := news_second N
theorem due_step {h₀ : Heap} {L : Addr} {m m₀ : Str → Option Value} {s s₁ : Shared} {du I T0 : Addr} {o0 it : Obj} {fix : List (Addr × Obj)} {Es : Nat → List Dat} {fr : Nat → Int} {i : Nat} {d : DD} {e : Dat} {f : Flow} {s₂ : Shared} {h : Heap} {tk : Nat} {Q : Flow → Shared → Prop} {nm : List Str}
    (X : DueOut nm h₀ L m s du d.k d.rs ((I, it) :: (T0, o0) :: (fix ++ d.os)) [] e (fr (i + 1)) f s₂) (es : s = { s₁ with heap := h, toks := tk }) (hd : DDok du T0 o0 Es fr i d) (he : Es (i + 1) = Es i ++ [e]) (h1 : ∀ p ∈ (du, W.listOf d.rs.toArray d.k) :: (T0, o0) :: (fix ++ d.os), p.1 ≠ I)
    (hm : ∀ z, z ∉ nm → m z = m₀ z) : UnrPost h₀ L s₁ I it (TurnedK nm m₀ (fun d : DD => [(Str.ofString "front", .int d.f d.t)]) (fun d => (du, W.listOf d.rs.toArray d.k) :: (T0, o0) :: (fix ++ d.os)) (DDok du T0 o0 Es fr (i + 1))) Q f s₂ := by
  obtain ⟨rfl, h', tk', m', os', v, tf, rfl, F, N, off, hD, hf, hz⟩ := X
  subst es
  obtain ⟨hD3, hdu, hdf⟩ := hd
  rw [List.append_nil] at hD
  obtain ⟨a1, a2⟩ := List.forall_mem_cons.mp h1
  obtain ⟨a3, a4⟩ := List.forall_mem_cons.mp a2
  obtain ⟨a5, a6⟩ := List.forall_mem_append.mp a4
  show UnrEnd _ _ _ _ _ _ _
  refine turn_endK (⟨d.rs ++ [v], os' ++ d.os, d.k + 1, fr (i + 1), tf⟩ : DD) F N (.tail _ (List.mem_append_right _ (.head _))) ?sub ?off (fun z h => (hz z h).trans (hm z h)) ?hk ⟨?q1, ?q2, rfl⟩
  case sub =>
    intro p hp
    rcases List.mem_cons.mp hp with rfl | hp
    · exact .head _
    rcases List.mem_cons.mp hp with rfl | hp
    · exact .tail _ (List.mem_append_right _ (.tail _ (.head _)))
    rcases List.mem_append.mp hp with hp | hp
    · exact .tail _ (List.mem_append_right _ (.tail _ (.tail _ (List.mem_append_left _ hp))))
    rcases List.mem_append.mp hp with hp | hp
    · exact .tail _ (List.mem_append_left _ hp)
    · exact .tail _ (List.mem_append_right _ (.tail _ (.tail _ (List.mem_append_right _ hp))))
  case off =>
    refine List.forall_mem_cons.mpr ⟨a1, List.forall_mem_cons.mpr ⟨a3, List.forall_mem_append.mpr ⟨a5, List.forall_mem_append.mpr ⟨fun p hp => ?_, a6⟩⟩⟩⟩
    exact Ne.symm ((off p hp).2 _ (.head _))
  case hk => (intro p hp; rw [List.mem_singleton.mp hp]; exact hf)
  case q1 =>
    rw [he]
    refine (hD3.mono fun p hp => ?_).append (.one (hD.mono fun p hp => .tail _ (List.mem_append_left _ hp)))
    rcases List.mem_cons.mp hp with rfl | hp
    · exact .head _
    · exact .tail _ (List.mem_append_right _ hp)
  case q2 => exact List.forall_mem_append.mpr ⟨fun p hp => (off p hp).1, hdu⟩
section
set_option maxHeartbeats 2500000 in
theorem c_due (w : World) (mean : ExcName → Option Value) (mg mb : Str → Option Value) (l : Addr) (vs : List Value) (ns : List Int) (hI : IntsAre vs ns) (hn : ns.length = 7) (hc : ∀ c ∈ ns, 0 ≤ c ∧ c < 55296) :
    Tell w mean mg mb 138 12 [.ref l] (fun h => h.IsList l vs.toArray) (fun h r h' => ∃ M n, Least ns M ∧ Made h h' n ∧ DatIn n r (.list (dueD ns M 7))) := by
  have hvl : vs.length = 7 := hI.length.trans hn
  w_on; unfold Tell; k_fill
  intro dp un gd cn cs a' ccd cl outer A₀ base h₀ L m s Q E B F X T hk hpre hd hu hret
  refine wpAny_call ?_
  k_dflt (refine' enterC ?k1 ?k2 ?k3 ?k4 ?k5 ?kA ?kF ?kK ?k6 ?k7 ?k8 ?k9 ?kB ?kD ?_ ?c2 ?c3 ?c4; (case kA => exact rfl); (case kF => exact rfl); (case kK => assumption); (case k1 => k_asm); (case k2 => k_asm); (case k3 => k_asm); (case k4 => exact News.nil); (case k5 => k_asm); (case k6 => k_is); (case k7 => k_is); (case k8 => ktr_room); (case k9 => exact BindsTo.of_eq rfl); (case kB => exact rfl); (case kD => decide +kernel); (case c2 => exact rfl); (case c3 => exact rfl); (case c4 => exact rfl); k_whole)
  intro g L' h₁ tk cells hg F' N' Y' B' X' T' _
  have hg' : g = s.heap := hg
  subst hg'
  k_cells Y'
  (try simp only [List.cons_append, List.nil_append, List.append_nil] at N')
  (try dsimp only); (try k_fold)
  k_steps
  show wpAny _ _ _ _ _ _
  refine list_head ["code"] (fun d : Ls => W.listOf d.vs.toArray d.k) (fun _ => _) (fun _ i d => IntsAre d.vs (cnts ns i)) ⟨[_], [], 0⟩ rfl (by assumption) (by assumption) (by assumption) ?_ ?_ ?_
  · exact .cons _ _ .nil
  · rintro I hI0 i v hv u ⟨cv, _, k⟩ hD hoff it h tk F N
    -- <<
    simp only [ovr] at F
    dsimp only at hD hoff N
    have hin : ∃ c t, v = .int c t ∧ ns[i]? = some c := by
      obtain ⟨n, t, e, q⟩ := IntsAre.at ‹IntsAre vs ns› i v hv
      exact ⟨n, t, e, q⟩
    obtain ⟨c, t, rfl, hcn⟩ := hin
    have hD' := hD
    rw [cnts_back] at hD'
    have hcb := hc c (List.mem_of_getElem? hcn)
    have hlen : cv.length ≤ sizeLine := by
      have h1 := hD.length
      have h2 := (List.getElem?_eq_some_iff.mp hcn).1
      rw [List.length_map, List.length_range] at h1
      rw [sizeLine_eq]; lia
    (try dsimp only); (try k_fold)
    k_steps
    show wpAny _ _ _ _ _ _
    have hof : NeAll _ I := hoff
    refine tell_use (c_step w mean mg mb c _ hcb.1 hcb.2) B' F X' N T' rfl True.intro (by ktr_room) (by ktr_units) ?_
    rintro r h3 tk3 F3 N3 k3 ⟨t3, rfl⟩
    (try dsimp only)
    clear F N
    k_steps
    show UnrEnd _ _ _ _ _ _ _
    refine turn_end ⟨_, [], _⟩ (by assumption) (by assumption) (by k_mem) (fun p hp => .tail _ hp) ?o1 ?o2 ?o3
    case o3 => (show IntsAre _ _; rw [cnts_succ, cnt_succ hcn]; exact hD.append (.cons _ _ .nil))
    case o1 => (refine List.forall_mem_cons.mpr ⟨by k_ne, fun p hp => hoff p (.tail _ hp)⟩)
    case o2 => (intro z hz; simp only [List.mem_cons, List.not_mem_nil, or_false, not_or] at hz; simp only [if_neg hz])
    -- >>
  · rintro u ⟨cv, _, k⟩ hD h tk F N
    simp only [ovr] at F
    rw [hvl] at hD
    have h70 : 0 < (List.take 7 (cnts ns 7)).length := by simp
    dsimp only at hD N
    (try dsimp only); (try k_fold)
    k_steps
    show wpAny _ _ _ _ _ _
    rename Int => M
    have HM : Least ns M := Least.of (by assumption) (by assumption)
    refine rangeT_headK [] (fun _ => []) (fun d : CD => W.listOf d.vs.toArray d.k) (fun d => [(_, _), (_, _), (_, d.o), (_, _)]) (fun j d => IntsAre d.vs (pls ns M j) ∧ ∃ v, d.o.data = .cell v) ⟨[], 0, _⟩ rfl (by assumption) HM.range.1 HM.range.2 (by assumption) (by assumption) ?hk0 ?h0 ?turn ?done
    case hk0 => exact List.forall_mem_nil _
    case h0 => exact ⟨.nil, _, by assumption⟩
    case turn =>
      rintro I hI0 j hj u ⟨pv, k, o⟩ ⟨hP, ⟨v, hv⟩⟩ hoff t s₁ F N
      -- <<
      simp only [lay, ovr] at F
      dsimp only at hP hv hoff N
      have hof : NeAll _ I := hoff
      have hPl := hP.length
      k_steps
      show wpAny _ _ _ _ _ _
      k_dflt (refine LCt.ListComp_T (F₀ := by k_asm) (by with_unfolding_all rfl) (by decide) (by rfl) (by decide) (by rfl) ?_)
      k_steps
      show LCt.CompSrcT _ _ _ _ _ _ _ _ _ _ _ _ _ _ _
      refine LCt.CompSrcT.range (n := 7) rfl (by k_asm) (by k_asm) (by assumption) (by decide) (by rfl) (Nat.le_of_ble_eq_true rfl) fun g => ?_
      refine compT_inv (fun i ys nw => nw = (I, itR (M + ((j + 1 : Nat) : Int)) (((cnt ns 7).toNat : Int) - ((j + 1 : Nat) : Int))) :: _ ∧ IntsAre ys (plcN ns (M + (j : Int)) i)) ?t1 ?t2 7 0 rfl [] _ ⟨rfl, .nil⟩
      case t1 =>
        rintro i hi ys nw ⟨rfl, iy⟩ v J oJ C oC D m₂ h tk E' ⟨tv, rfl⟩ hC hx F2 N2 off ne
        k_steps
        show wpAny _ _ _ _ _ _
        refine item_cnt N2 (by k_mem) hD (by lia) fun ti => ?_
        (try dsimp only)
        k_steps
        · rename_i hq
          exact LCg.CompEnd.intro F2 N2 _ (fun p hp => hp) off True.intro ⟨rfl, by rw [plcN_yes hq]; exact iy.append (.cons _ _ .nil)⟩
        · rename_i hq
          exact LCg.CompEnd.intro F2 N2 _ (fun p hp => hp) off True.intro ⟨rfl, by rw [plcN_no hq]; exact iy⟩
      case t2 =>
        rintro ys nw ⟨rfl, iy⟩ D h tk F3 N3 o1
        rw [plcN_seven] at iy
        have h7 := HM.plc_pos hj
        have oD : NeAll _ D := off1_ne o1
        have hpl : pv.length ≤ sizeLine := by
          have h2 := cnt_bound ns 7
          rw [pls_length] at hPl
          rw [sizeLine_eq]; lia
        (try dsimp only)
        k_steps
        have eM := plc_max (by assumption) (by assumption)
        rename Obj => oz
        refine ⟨rfl, turn_endK (⟨pv ++ [_], k + 1, oz⟩ : CD) (by assumption) (by assumption) (by k_mem) (List.forall_mem_cons.mpr ⟨by k_mem, fun p hp => by k_mem⟩) (off_map hoff rfl) (fun z _ => rfl) (List.forall_mem_nil _) ⟨?o3, _, by assumption⟩⟩
        case o3 => (rw [pls_succ, ← eM]; exact (‹IntsAre pv _›).append (.cons _ _ .nil))
      -- >>
    case done =>
      rintro u ⟨pv, kp, o⟩ ⟨hP, ⟨v, hv⟩⟩ h tk F N
      simp only [lay, ovr] at F
      dsimp only at hP hv N
      k_steps
      have hR : (cnt ns 7).toNat ≤ 7 := by have := cnt_bound ns 7; lia
      have hPl := hP.length
      rw [pls_length] at hPl
      have hsp : pv.toArray.size ≤ sizeLine := by rw [List.size_toArray, hPl, sizeLine_eq]; lia
      k_dflt (refine LCg.ListComp_U (F₀ := by k_asm) (by with_unfolding_all rfl) (by decide) (by rfl) (by decide) (by rfl) ?_)
      k_steps
      show LCg.CompSrc _ _ _ _ _ _ _ _ _ _ _ _ _ _
      refine LCg.CompSrc.ledger rfl (by k_asm) (by k_asm) (by k_mem) hsp fun g => ?_
      refine comp_fix (fun i ys => IntsAre ys (((pls ns M (cnt ns 7).toNat).take i).map (· + 7))) .nil ?t1 ?t2
      case t1 =>
        rintro i hi ys iy v J oJ C oC D m₂ h tk E' hv hC hx F2 N2 off ne
        -- <<
        obtain ⟨c, tc, rfl, hc2⟩ : ∃ c t, v = .int c t ∧ (pls ns M (cnt ns 7).toNat)[i]? = some c := by
          obtain ⟨n, t, e, q⟩ := IntsAre.at ‹IntsAre pv _› i v (by simpa using hv)
          exact ⟨n, t, e, q⟩
        k_steps
        refine LCg.CompEnd.intro F2 N2 _ (fun p hp => hp) off (.inr ⟨_, .head _, rfl, _, rfl⟩) ⟨rfl, ?_⟩
        rw [List.take_add_one, hc2, List.map_append]
        exact iy.append (.cons _ _ .nil)
        -- >>
      case t2 =>
        rintro ys iy D h tk F3 N3 o1
        rw [List.take_of_length_le (by rw [List.size_toArray, hPl, pls_length]; exact Nat.le_refl _)] at iy
        have hyl := iy.length
        rw [List.length_map, pls_length] at hyl
        have hys : pv.length + ys.length ≤ sizeLine := by rw [hPl, hyl, sizeLine_eq]; lia
        have hAr := (‹IntsAre pv _›).append iy
        (try dsimp only)
        k_steps
        show wpAny _ _ _ _ _ _
        refine' list_dataK ["code", "whole"] (fun d : Int × Tok => [("whole", .int d.1 d.2)]) (fun _ => _) (fun i d => d.1 = hrn (ns.take i)) (0, _) rfl hpre (by assumption) (by assumption) ?hk0 ?h0 ?turn ?done
        case hk0 => (intro p hp; rw [List.mem_singleton.mp hp]; exact rfl)
        case h0 => exact rfl
        case turn =>
          rintro I hI0 i v hv u ⟨x, tx⟩ hx hoff it h tk F N
          -- <<
          simp only [lay, ovr] at F
          dsimp only at hx N
          obtain ⟨c, t, rfl, hcn⟩ : ∃ c t, v = .int c t ∧ ns[i]? = some c := by
            obtain ⟨n, t, e, q⟩ := IntsAre.at ‹IntsAre vs ns› i v hv
            exact ⟨n, t, e, q⟩
          (try dsimp only); (try k_fold)
          k_steps
          show UnrEnd _ _ _ _ _ _ _
          refine' turn_endK (x * 65536 + c, _) (by assumption) (by assumption) (by k_mem) (fun p hp => .tail _ hp) hoff ?o2 ?o3 ?o4
          case o2 => (intro z hz; simp only [List.mem_cons, List.not_mem_nil, or_false, not_or] at hz; obtain ⟨z1, z2⟩ := hz; simp only [if_neg z1, if_neg z2])
          case o3 => (intro p hp; rw [List.mem_singleton.mp hp]; exact rfl)
          case o4 => (show x * 65536 + c = _; rw [hrn_take hcn, ← hx])
          -- >>
        case done =>
          rintro u ⟨x, tx⟩ hx h tk F N
          simp only [lay, ovr] at F
          rw [hvl, ← hn, List.take_length] at hx
          dsimp only at hx N
          subst hx
          (try dsimp only); (try k_fold)
          k_steps
          show wpAny _ _ _ _ _ _
          refine range_dueK (n := 7) ["turn", "formulas", "first", "k", "codes", "parted", "front"] "front" (dueD ns M) (fun i => hrn (ns.take i)) rfl (by assumption) (by decide +kernel) (by decide +kernel) (by assumption) (by assumption) rfl ?h0 ?turn ?done
          case h0 => exact .cons (.tuple (.head _) (.cons (.int _ _) (.cons (.int _ _) .nil))) .nil
          case turn =>
            intro I hI0 i hi u d hd hoff t h tk F N
            simp only [lay, ovr] at F
            obtain ⟨hD3, hdu, hdf⟩ := hd
            have hi8 : (0 : Int) + (i : Int) = (i : Int) := Int.zero_add _
            rw [hi8, hdf] at F
            have hrl : d.rs.length ≤ 63 := by
              have h1 := hD3.length
              unfold dueD at h1
              rw [List.length_cons, List.length_map, List.length_range] at h1
              lia
            have hI1 := (List.forall_mem_cons.mp hoff).1
            have hPI := ‹IntsAre pv _›
            have hAI : IntsAre (pv ++ ys) (arnd ns M) := ‹IntsAre (pv ++ ys) _›
            refine' wpAny_mono (due_turn w mean mg mb ?hdef l vs ns M hI hn hc i hi dp un gd cn cs a' ccd cl outer base s.heap L L' _ _ _ _ d.k d.rs _ t _ d.t _ _ pv (pv ++ ys) _ _ B' X' T' hd hu hpre F (news_swap N) ?off hrl ?p1 hPI ?p2 hAI rfl rfl rfl rfl rfl rfl rfl ?hE) (fun f s₂ X => ?_) (fun _ _ e => e)
            case hdef => exact rfl
            case off => exact List.forall_mem_cons.mpr ⟨Ne.symm hI1, List.forall_mem_cons.mpr ⟨by k_ne, List.forall_mem_append.mpr ⟨by k_all, hdu⟩⟩⟩
            case p1 => k_mem
            case p2 => k_mem
            case hE => passes_own
            refine due_step X rfl ⟨hD3, hdu, hdf⟩ (dueD_succ ns M i) hoff ?_
            intro z hz
            simp only [List.mem_cons, List.not_mem_nil, or_false, not_or] at hz
            obtain ⟨z1, z2, z3, z4, z5, z6, z7⟩ := hz
            simp only [if_neg z1, if_neg z2, if_neg z3, if_neg z4, if_neg z5, if_neg z6, if_neg z7]
          case done =>
            intro u d hd h tk F N
            simp only [lay, ovr] at F
            k_steps
            exact hret _ _ _ (Fr.keep (by assumption)) ⟨M, _, HM, news_made N, .list (.head _) (hd.1.mono fun p hp => by
              rcases List.mem_cons.mp hp with rfl | hp
              · exact .tail _ (.head _)
              · exact .tail _ (.tail _ (List.mem_append_right _ hp)))⟩
end
end
end
section
/-- the last place up to j at which f is t -/
noncomputable def lastIn (f : Nat → Int) (t : Int) : Nat → Nat
  | 0 => 0
  | j + 1 => if f (j + 1) = t then j + 1 else lastIn f t j
theorem lastIn_le (f : Nat → Int) (t : Int) : ∀ j, lastIn f t j ≤ j
  | 0 => Nat.le_refl _
  | j + 1 => by
    unfold lastIn
    split
    · exact Nat.le_refl _
    · exact Nat.le_succ_of_le (lastIn_le f t j)
theorem lastIn_self (f : Nat → Int) : ∀ j, lastIn f (f j) j = j
  | 0 => rfl
  | j + 1 => by unfold lastIn; rw [if_pos rfl]
theorem lastIn_ne {f : Nat → Int} {t : Int} {j : Nat} (h : f (j + 1) ≠ t) : lastIn f t (j + 1) = lastIn f t j := by
  show (if f (j + 1) = t then j + 1 else lastIn f t j) = _
  rw [if_neg h]
theorem lastIn_spec {f : Nat → Int} (f0 : f 0 = 0) (fs : ∀ k, f (k + 1) ≤ f k + 1) {t : Int} (t0 : 0 ≤ t) : ∀ j, t ≤ f j → f (lastIn f t j) = t ∧ ∀ q, lastIn f t j < q → q ≤ j → t < f q
  | 0, h => ⟨by show f 0 = t; lia, fun q h1 h2 => by lia⟩
  | j + 1, h => by
    by_cases e : f (j + 1) = t
    · have e2 : lastIn f t (j + 1) = j + 1 := by unfold lastIn; rw [if_pos e]
      rw [e2]
      exact ⟨e, fun q h1 h2 => by lia⟩
    · rw [lastIn_ne e]
      have h3 := fs j
      obtain ⟨a, b⟩ := lastIn_spec f0 fs t0 j (by lia)
      refine ⟨a, fun q h1 h2 => ?_⟩
      rcases Nat.lt_or_ge j q with q1 | q1
      · have : q = j + 1 := by lia
        subst this; lia
      · exact b q h1 q1
theorem lastIn_mono {f : Nat → Int} (f0 : f 0 = 0) (fs : ∀ k, f (k + 1) ≤ f k + 1) {t : Int} (t0 : 0 ≤ t) {j : Nat} (h : t + 1 ≤ f j) : lastIn f t j ≤ lastIn f (t + 1) j := by
  obtain ⟨a, _⟩ := lastIn_spec f0 fs t0 j (by lia)
  obtain ⟨_, d⟩ := lastIn_spec f0 fs (t := t + 1) (by lia) j h
  rcases Nat.lt_or_ge (lastIn f (t + 1) j) (lastIn f t j) with q | q
  · have := d _ q (lastIn_le f t j)
    lia
  · exact q
/-- the pile when j signs are read -/
noncomputable def pileAt (cs : List Int) (j : Nat) : List (List Int) := (List.range (cnt cs j).toNat).map fun t : Nat => span cs (lastIn (cnt cs) (t : Int) j) (lastIn (cnt cs) ((t : Int) + 1) j)
theorem pile_of {cs : List Int} {j m : Nat} (h : cnt cs j = m) : pileAt cs j = (List.range m).map fun t : Nat => span cs (lastIn (cnt cs) (t : Int) j) (lastIn (cnt cs) ((t : Int) + 1) j) := by
  unfold pileAt; rw [h, Int.toNat_natCast]
theorem map_range_congr {α : Type} {f g : Nat → α} : ∀ {m : Nat}, (∀ t, t < m → f t = g t) → (List.range m).map f = (List.range m).map g := fun h => List.map_congr_left fun t ht => h t (List.mem_range.mp ht)
theorem stp_aln {c : Int} (h : aln c = true) : stp c = 1 ∧ pun c = false := by
  refine ⟨by unfold stp; rw [if_pos h], ?_⟩
  unfold aln at h; unfold pun
  rw [decide_eq_true_eq] at h
  rw [decide_eq_false_iff_not]; lia
theorem stp_pun {c : Int} (h : pun c = true) : stp c = -1 ∧ aln c = false := by
  have h2 : aln c = false := by
    cases e : aln c with
    | false => rfl
    | true => rw [(stp_aln e).2] at h; cases h
  exact ⟨by unfold stp; rw [h2, h]; rfl, h2⟩
theorem stp_none {c : Int} (h1 : pun c = false) (h2 : aln c = false) : stp c = 0 := by unfold stp; rw [h1, h2]; rfl
theorem cnt_up (cs : List Int) (k : Nat) : cnt cs (k + 1) ≤ cnt cs k + 1 := (cnt_step cs k).1
theorem pile_step {cs : List Int} {j : Nat} {c : Int} (hj : cs[j]? = some c) (h0 : 0 ≤ cnt cs j) (h1 : 1 ≤ cnt cs (j + 1)) : rstep (pileAt cs j) c = some (pileAt cs (j + 1)) := by
  obtain ⟨hlt, hce⟩ := List.getElem?_eq_some_iff.mp hj
  have hs := cnt_succ hj
  have f0 := cnt_zero cs
  have fs := cnt_up cs
  have one : span cs j (j + 1) = [c] := by rw [span_one hlt, hce]
  obtain ⟨m, hm⟩ := Int.eq_ofNat_of_zero_le h0
  have hself : lastIn (cnt cs) (m : Int) j = j := by rw [← hm]; exact lastIn_self _ _
  cases hp : pun c with
  | true =>
    rw [(stp_pun hp).1] at hs
    have hm2 : 2 ≤ m := by lia
    obtain ⟨m', rfl⟩ : ∃ m', m = m' + 2 := ⟨m - 2, by lia⟩
    have hm1 : cnt cs (j + 1) = ((m' + 1 : Nat) : Int) := by lia
    rw [pile_of hm, pile_of hm1, List.range_succ, List.range_succ]
    simp only [List.map_append, List.map_cons, List.map_nil]
    rw [rstep_mark hp]
    congr 2
    · exact map_range_congr fun t ht => by rw [lastIn_ne (by lia), lastIn_ne (by lia)]
    · have e3 : ((m' + 1 : Nat) : Int) = (m' : Int) + 1 := by lia
      have e4 : ((m' + 1 : Nat) : Int) + 1 = ((m' + 2 : Nat) : Int) := by lia
      have e5 : lastIn (cnt cs) ((m' : Int) + 1) (j + 1) = j + 1 := by rw [← e3, ← hm1]; exact lastIn_self _ _
      rw [e4, hself, lastIn_ne (t := (m' : Int)) (by lia), e5, e3]
      have a1 := lastIn_mono f0 fs (t := (m' : Int)) (by lia) (j := j) (by lia)
      have a2 := lastIn_le (cnt cs) ((m' : Int) + 1) j
      rw [← span_split a1 a2, ← one, ← span_split (Nat.le_trans a1 a2) (Nat.le_succ _)]
  | false =>
    cases ha : aln c with
    | true =>
      rw [(stp_aln ha).1] at hs
      have hm1 : cnt cs (j + 1) = ((m + 1 : Nat) : Int) := by lia
      rw [pile_of hm, pile_of hm1, rstep_aln hp ha, List.range_succ, List.map_append, List.map_singleton]
      congr 2
      · exact map_range_congr fun t ht => by rw [lastIn_ne (by lia), lastIn_ne (by lia)]
      · have e3 : ((m + 1 : Nat) : Int) = (m : Int) + 1 := by lia
        have e5 : lastIn (cnt cs) ((m : Int) + 1) (j + 1) = j + 1 := by rw [← e3, ← hm1]; exact lastIn_self _ _
        rw [e5, lastIn_ne (t := (m : Int)) (by lia), hself, one]
    | false =>
      rw [stp_none hp ha] at hs
      obtain ⟨m', rfl⟩ : ∃ m', m = m' + 1 := ⟨m - 1, by lia⟩
      have hm1 : cnt cs (j + 1) = ((m' + 1 : Nat) : Int) := by lia
      rw [pile_of hm, pile_of hm1, List.range_succ, List.map_append, List.map_append, List.map_singleton, List.map_singleton, rstep_other hp ha]
      congr 2
      · exact map_range_congr fun t ht => by rw [lastIn_ne (by lia), lastIn_ne (by lia)]
      · have e3 : (m' : Int) + 1 = ((m' + 1 : Nat) : Int) := by lia
        have e5 : lastIn (cnt cs) ((m' : Int) + 1) (j + 1) = j + 1 := by rw [e3, ← hm1]; exact lastIn_self _ _
        rw [e5, lastIn_ne (t := (m' : Int)) (by lia), e3, hself]
        have a1 := lastIn_le (cnt cs) (m' : Int) j
        rw [← one, ← span_split a1 (Nat.le_succ _)]
theorem pile_stop {cs : List Int} {j : Nat} {c : Int} (hj : cs[j]? = some c) (h0 : 0 ≤ cnt cs j) (h1 : cnt cs (j + 1) < 1) : rstep (pileAt cs j) c = none := by
  have hs := cnt_succ hj
  have hl : (pileAt cs j).length = (cnt cs j).toNat := by unfold pileAt; simp
  cases hp : pun c with
  | true =>
    rw [(stp_pun hp).1] at hs
    exact rstep_short hp (by lia)
  | false =>
    cases ha : aln c with
    | true => rw [(stp_aln ha).1] at hs; lia
    | false =>
      rw [stp_none hp ha] at hs
      have e : pileAt cs j = [] := List.length_eq_zero_iff.mp (by lia)
      rw [e]; exact rstep_none hp ha
theorem read_good {cs : List Int} : ∀ j, j ≤ cs.length → (∀ q, 1 ≤ q → q ≤ j → 1 ≤ cnt cs q) → rread (cs.drop j) (pileAt cs j) = rread cs []
  | 0, _, _ => by
    have e : pileAt cs 0 = [] := by unfold pileAt; rw [cnt_zero]; rfl
    rw [e, List.drop_zero]
  | j + 1, hj, h => by
    have ih := read_good j (by lia) fun q a b => h q a (by lia)
    have h0 : 0 ≤ cnt cs j := by
      rcases Nat.eq_zero_or_pos j with rfl | q
      · rw [cnt_zero]; lia
      · have := h j q (by lia); lia
    exact rread_next (List.getElem?_eq_getElem (by lia)) ih (pile_step (List.getElem?_eq_getElem (by lia)) h0 (h (j + 1) (by lia) (Nat.le_refl _)))
theorem read_bad {cs : List Int} {j : Nat} (hj : j < cs.length) (h : ∀ q, 1 ≤ q → q ≤ j → 1 ≤ cnt cs q) (h1 : cnt cs (j + 1) < 1) : rread cs [] = none := by
  have ih := read_good j (by lia) h
  have h0 : 0 ≤ cnt cs j := by
    rcases Nat.eq_zero_or_pos j with rfl | q
    · rw [cnt_zero]; lia
    · have := h j q (Nat.le_refl _); lia
  exact rread_none (List.getElem?_eq_getElem hj) ih (pile_stop (List.getElem?_eq_getElem hj) h0 h1)
/-- either all is well up to n or there is a first fall -/
theorem first_bad (f : Nat → Int) : ∀ n, (∀ q, 1 ≤ q → q ≤ n → 1 ≤ f q) ∨ ∃ j, j < n ∧ (∀ q, 1 ≤ q → q ≤ j → 1 ≤ f q) ∧ f (j + 1) < 1
  | 0 => .inl fun q a b => by lia
  | n + 1 => by
    rcases first_bad f n with h | ⟨j, a, b, c⟩
    · by_cases h2 : 1 ≤ f (n + 1)
      · refine .inl fun q a b => ?_
        rcases Nat.lt_or_ge n q with q1 | q1
        · have : q = n + 1 := by lia
          subst this; exact h2
        · exact h q a q1
      · exact .inr ⟨n, by lia, h, by lia⟩
    · exact .inr ⟨j, by lia, b, c⟩
/-- the read of seven signs -/
theorem read_seven {cs : List Int} (hl : cs.length = 7) : ((∀ q, 1 ≤ q → q ≤ 7 → 1 ≤ cnt cs q) ∧ rread cs [] = some (pileAt cs 7)) ∨ ((∃ q, 1 ≤ q ∧ q ≤ 7 ∧ cnt cs q < 1) ∧ rread cs [] = none) := by
  rcases first_bad (cnt cs) 7 with h | ⟨j, a, b, c⟩
  · refine .inl ⟨h, ?_⟩
    have := read_good 7 (by lia) h
    rw [List.drop_of_length_le (by lia)] at this
    exact this.symm
  · exact .inr ⟨⟨j + 1, by lia, by lia, c⟩, read_bad (by lia) b c⟩
theorem cnt_drop (xs : List Int) (i q : Nat) : cnt (xs.drop i) q = cnt xs (i + q) - cnt xs i := by
  unfold cnt
  rw [List.take_add, List.map_append, List.sum_append]
  lia
theorem cnt_take (xs : List Int) {n q : Nat} (h : q ≤ n) : cnt (xs.take n) q = cnt xs q := by
  unfold cnt
  rw [List.take_take, Nat.min_eq_left h]
theorem cnt_app1 (a b : List Int) {k : Nat} (h : k ≤ a.length) : cnt (a ++ b) k = cnt a k := by
  unfold cnt; rw [List.take_append_of_le_length h]
theorem cnt_app2 (a b : List Int) (k : Nat) : cnt (a ++ b) (a.length + k) = cnt a a.length + cnt b k := by
  unfold cnt
  rw [List.take_length_add_append, List.take_length, List.map_append, List.sum_append]
theorem rot_ws {ns : List Int} (hn : ns.length = 7) {i : Nat} (hi : i < 7) : rot ns i = ((ns ++ ns).drop i).take 7 := by
  unfold rot
  have h2 : (ns.drop i).take 7 = ns.drop i := List.take_of_length_le (by rw [List.length_drop]; lia)
  rw [List.drop_append_of_le_length (by lia), List.take_append, h2, List.length_drop, hn, show 7 - (7 - i) = i by lia]
section
variable {ns : List Int} (hn : ns.length = 7)
include hn
theorem g_lo {k : Nat} (h : k ≤ 7) : cnt (ns ++ ns) k = cnt ns k := cnt_app1 _ _ (by lia)
theorem g_hi (k : Nat) : cnt (ns ++ ns) (7 + k) = cnt ns 7 + cnt ns k := by
  have := cnt_app2 ns ns k
  rw [hn] at this; exact this
theorem cnt_rot {i q : Nat} (hi : i < 7) (hq : q ≤ 7) : cnt (rot ns i) q = cnt (ns ++ ns) (i + q) - cnt (ns ++ ns) i := by
  rw [rot_ws hn hi, cnt_take _ hq, cnt_drop]
end
theorem pls_get {ns : List Int} {M : Int} {R k : Nat} (hk : k < R) : (pls ns M R)[k]? = some ((lastAt ns (M + (k : Int)) : Nat) : Int) := by
  unfold pls
  rw [List.getElem?_map, List.getElem?_range hk]; rfl
theorem arnd_lo {ns : List Int} {M : Int} {k : Nat} (hk : k < (cnt ns 7).toNat) : (arnd ns M).getD k 0 = ((lastAt ns (M + (k : Int)) : Nat) : Int) := by
  unfold arnd
  rw [List.getD_eq_getElem?_getD, List.getElem?_append_left (by rw [pls_length]; exact hk), pls_get hk]; rfl
theorem arnd_hi {ns : List Int} {M : Int} {k : Nat} (hk : k < (cnt ns 7).toNat) : (arnd ns M).getD ((cnt ns 7).toNat + k) 0 = ((lastAt ns (M + (k : Int)) : Nat) : Int) + 7 := by
  unfold arnd
  rw [List.getD_eq_getElem?_getD, List.getElem?_append_right (by rw [pls_length]; lia), pls_length, Nat.add_sub_cancel_left, List.getElem?_map, pls_get hk]; rfl
section
variable {ns : List Int} (hn : ns.length = 7) {M : Int} (HM : Least ns M)
include hn HM
/-- the k-th place around, seen over the line laid twice -/
theorem place_spec {i p k : Nat} (hi : i < 7) (hp : p < (cnt ns 7).toNat) (hpi : lastAt ns (M + (p : Int)) = i) (k1 : p ≤ k) (k2 : k ≤ p + (cnt ns 7).toNat) :
    ∃ a : Nat, (arnd ns M).getD k 0 = (a : Int) ∧ i ≤ a ∧ a ≤ 7 + i ∧ cnt (ns ++ ns) a = M + k ∧ ∀ q, a < q → q ≤ 7 + i → M + k < cnt (ns ++ ns) q := by
  have hr : ((cnt ns 7).toNat : Int) = cnt ns 7 := by lia
  obtain ⟨p1, p2, p3⟩ := lastAt_spec HM (c := M + (p : Int)) (by lia) (by lia)
  rw [hpi] at p1 p2 p3
  rcases Nat.lt_or_ge k (cnt ns 7).toNat with h | h
  · obtain ⟨s1, s2, s3⟩ := lastAt_spec HM (c := M + (k : Int)) (by lia) (by lia)
    refine ⟨_, arnd_lo h, ?_, by lia, ?_, ?_⟩
    · rcases Nat.lt_or_ge (lastAt ns (M + (k : Int))) i with q | q
      · have := s3 i q (by lia); lia
      · exact q
    · rw [g_lo hn (by lia)]; exact s2
    · intro q q1 q2
      rcases Nat.lt_or_ge 7 q with h7 | h7
      · obtain ⟨q', rfl⟩ : ∃ q', q = 7 + q' := ⟨q - 7, by lia⟩
        rw [g_hi hn]
        have := HM.le q' (by lia)
        lia
      · rw [g_lo hn h7]; exact s3 q q1 h7
  · obtain ⟨k', rfl⟩ : ∃ k', k = (cnt ns 7).toNat + k' := ⟨k - (cnt ns 7).toNat, by lia⟩
    obtain ⟨s1, s2, s3⟩ := lastAt_spec HM (c := M + (k' : Int)) (by lia) (by lia)
    have hle : lastAt ns (M + (k' : Int)) ≤ i := by
      rcases Nat.lt_or_ge i (lastAt ns (M + (k' : Int))) with q | q
      · have := p3 _ q (by lia); lia
      · exact q
    refine ⟨7 + lastAt ns (M + (k' : Int)), ?_, by lia, by lia, ?_, ?_⟩
    · rw [arnd_hi (by lia)]; lia
    · rw [g_hi hn, s2]; lia
    · intro q q1 q2
      obtain ⟨q', rfl⟩ : ∃ q', q = 7 + q' := ⟨q - 7, by lia⟩
      rw [g_hi hn]
      have := s3 q' (by lia) (by lia)
      lia
theorem in_pls {i : Nat} (hi : i < 7) (h : ∀ q, 1 ≤ q → q ≤ 7 → 1 ≤ cnt (rot ns i) q) : (i : Int) ∈ pls ns M (cnt ns 7).toNat := by
  have hf : ∀ q, 1 ≤ q → q ≤ 7 → cnt ns i + 1 ≤ cnt (ns ++ ns) (i + q) := fun q a b => by
    have := h q a b
    rw [cnt_rot hn hi b, g_lo hn (k := i) (by lia)] at this
    lia
  have h7 := hf 7 (by decide) (Nat.le_refl _)
  rw [Nat.add_comm, g_hi hn] at h7
  obtain ⟨k, k1, k2⟩ := HM.at'
  have hM := HM.le i hi
  have hlt : cnt ns i < M + cnt ns 7 := by
    rcases Nat.lt_or_ge i k with q | q
    · have := hf (k - i) (by lia) (by lia)
      rw [show i + (k - i) = k by lia, g_lo hn (by lia)] at this
      lia
    · have := hf (7 + k - i) (by lia) (by lia)
      rw [show i + (7 + k - i) = 7 + k by lia, g_hi hn] at this
      lia
  obtain ⟨s1, s2, s3⟩ := lastAt_spec HM (c := cnt ns i) hM hlt
  have e : lastAt ns (cnt ns i) = i := by
    rcases Nat.lt_trichotomy (lastAt ns (cnt ns i)) i with q | q | q
    · have := s3 i q (by lia); lia
    · exact q
    · have := hf (lastAt ns (cnt ns i) - i) (by lia) (by lia)
      rw [show i + (lastAt ns (cnt ns i) - i) = lastAt ns (cnt ns i) by lia, g_lo hn (by lia)] at this
      lia
  have ht : (cnt ns i - M).toNat < (cnt ns 7).toNat := by lia
  have := pls_get (ns := ns) (M := M) ht
  rw [show M + ((cnt ns i - M).toNat : Int) = cnt ns i by lia, e] at this
  exact List.mem_of_getElem? this
theorem pls_at {i : Nat} (h : (i : Int) ∈ pls ns M (cnt ns 7).toNat) : (pls ns M (cnt ns 7).toNat).idxOf (i : Int) < (cnt ns 7).toNat ∧ lastAt ns (M + (((pls ns M (cnt ns 7).toNat).idxOf (i : Int) : Nat) : Int)) = i := by
  have h1 := List.idxOf_lt_length_iff.mpr h
  have h2 := List.getElem_idxOf h1
  rw [pls_length] at h1
  refine ⟨h1, ?_⟩
  have h3 := pls_get (ns := ns) (M := M) h1
  rw [List.getElem?_eq_getElem (by rw [pls_length]; exact h1), h2] at h3
  have h4 := Option.some.inj h3
  lia
theorem rot_good {i : Nat} (hi : i < 7) (h : (i : Int) ∈ pls ns M (cnt ns 7).toNat) : ∀ q, 1 ≤ q → q ≤ 7 → 1 ≤ cnt (rot ns i) q := by
  obtain ⟨p1, p2⟩ := pls_at hn HM h
  obtain ⟨a, a1, a2, a3, a4, a5⟩ := place_spec hn HM hi p1 p2 (Nat.le_refl _) (Nat.le_add_right _ _)
  rw [arnd_lo p1, p2] at a1
  have ea : a = i := by lia
  subst ea
  intro q q1 q2
  have := a5 (a + q) (by lia) (by lia)
  rw [cnt_rot hn hi q2]
  lia
theorem pile_fms {i : Nat} (hi : i < 7) (h : (i : Int) ∈ pls ns M (cnt ns 7).toNat) : pileAt (rot ns i) 7 = fms ns M ((pls ns M (cnt ns 7).toNat).idxOf (i : Int)) (cnt ns 7).toNat := by
  obtain ⟨p1, p2⟩ := pls_at hn HM h
  generalize (pls ns M (cnt ns 7).toNat).idxOf (i : Int) = p at *
  obtain ⟨a, a1, _, _, a4, _⟩ := place_spec hn HM hi p1 p2 (Nat.le_refl _) (Nat.le_add_right _ _)
  rw [arnd_lo p1, p2] at a1
  have ea : a = i := by lia
  subst ea
  have h7 : cnt (rot ns a) 7 = cnt ns 7 := by
    rw [cnt_rot hn hi (Nat.le_refl _), Nat.add_comm, g_hi hn, g_lo hn (by lia)]; lia
  have key : ∀ t : Nat, t ≤ (cnt ns 7).toNat → (arnd ns M).getD (p + t) 0 = ((a + lastIn (cnt (rot ns a)) (t : Int) 7 : Nat) : Int) ∧ lastIn (cnt (rot ns a)) (t : Int) 7 ≤ 7 := by
    intro t ht
    obtain ⟨b, b1, b2, b3, b4, b5⟩ := place_spec hn HM hi p1 p2 (k := p + t) (by lia) (by lia)
    have hl := lastIn_le (cnt (rot ns a)) (t : Int) 7
    obtain ⟨c1, c2⟩ := lastIn_spec (f := cnt (rot ns a)) (cnt_zero _) (cnt_up _) (t := (t : Int)) (by lia) 7 (by rw [h7]; lia)
    rw [cnt_rot hn hi hl] at c1
    refine ⟨?_, hl⟩
    rw [b1]
    have e : b = a + lastIn (cnt (rot ns a)) (t : Int) 7 := by
      rcases Nat.lt_trichotomy b (a + lastIn (cnt (rot ns a)) (t : Int) 7) with q | q | q
      · have := b5 _ q (by lia); lia
      · exact q
      · have := c2 (b - a) (by lia) (by lia)
        rw [cnt_rot hn hi (by lia), show a + (b - a) = b by lia] at this
        lia
    lia
  unfold pileAt fms
  rw [h7]
  refine map_range_congr fun t ht => ?_
  obtain ⟨e1, l1⟩ := key t (by lia)
  obtain ⟨e2, l2⟩ := key (t + 1) (by lia)
  have e3 : ((t + 1 : Nat) : Int) = (t : Int) + 1 := by lia
  rw [e3] at e2 l2
  unfold fml slc span
  rw [e1, show p + t + 1 = p + (t + 1) by lia, e2, Int.toNat_natCast, Int.toNat_natCast]
  generalize lastIn (cnt (rot ns a)) (t : Int) 7 = A at *
  generalize lastIn (cnt (rot ns a)) ((t : Int) + 1) 7 = B at *
  rw [rot_ws hn hi, List.drop_take, List.drop_drop, List.take_take]
  congr 1
  rw [List.length_append]
  lia
end
theorem rread_rot {ns : List Int} (hn : ns.length = 7) {M : Int} (HM : Least ns M) {i : Nat} (hi : i < 7) :
    match rread (rot ns i) [] with
    | none => fmsD ns M i = .none
    | some xss => fmsD ns M i = .list (datLL xss) := by
  have hl : (rot ns i).length = 7 := by unfold rot; rw [List.length_append, List.length_drop, List.length_take]; lia
  rcases read_seven hl with ⟨h, e⟩ | ⟨⟨q, q1, q2, q3⟩, e⟩
  · rw [e]
    have hm := in_pls hn HM hi h
    show fmsD ns M i = _
    unfold fmsD
    rw [if_pos hm, pile_fms hn HM hi hm]
  · rw [e]
    show fmsD ns M i = _
    unfold fmsD
    rw [if_neg fun hm => ?_]
    have := rot_good hn HM hi hm q q1 q2
    lia
end
section
theorem rot_length {ns : List Int} (hn : ns.length = 7) {i : Nat} (hi : i < 7) : (rot ns i).length = 7 := by
  unfold rot; rw [List.length_append, List.length_drop, List.length_take]; lia
theorem rot_mem {ns : List Int} {i : Nat} {c : Int} (h : c ∈ rot ns i) : c ∈ ns := by
  unfold rot at h
  rcases List.mem_append.mp h with h | h
  · exact List.mem_of_mem_drop h
  · exact List.mem_of_mem_take h
theorem e16 : (2 : Int) ^ 16 = 65536 := by decide
theorem dval_hrn : ∀ (ns : List Int), dval 16 ns.reverse = hrn ns := by
  have key : ∀ (n : Nat) (ns : List Int), ns.length = n → dval 16 ns.reverse = hrn ns := by
    intro n
    induction n with
    | zero => intro ns h; rw [List.length_eq_zero_iff.mp h]; rfl
    | succ n ih =>
      intro ns h
      rcases List.eq_nil_or_concat ns with rfl | ⟨r, c, rfl⟩
      · simp at h
      · rw [List.concat_eq_append] at *
        have hr : r.length = n := by simpa using h
        rw [List.reverse_append, List.reverse_singleton, hrn_snoc]
        show c + dval 16 r.reverse * 2 ^ 16 = _
        rw [ih r hr, e16]; lia
  exact fun ns => key _ ns rfl
theorem hrn_append (a b : List Int) : hrn (a ++ b) = hrn a * 65536 ^ b.length + hrn b := by
  have e : (65536 : Int) ^ b.length = 2 ^ (b.length * 16) := by rw [← e16, ← Int.pow_mul, Nat.mul_comm]
  rw [← dval_hrn (a ++ b), List.reverse_append, dval_append, dval_hrn, dval_hrn, List.length_reverse, Int.add_comm, e]
theorem c16 {cs : List Int} (hc : ∀ c ∈ cs, 0 ≤ c ∧ c < 55296) : ∀ c ∈ cs, 0 ≤ c ∧ c < 65536 := fun c h => ⟨(hc c h).1, by have := (hc c h).2; lia⟩
theorem hrn_cut {ns : List Int} (hn : ns.length = 7) {i : Nat} (hi : i < 7) : hrn ns = hrn (ns.take i) * 65536 ^ (7 - i) + hrn (ns.drop i) := by
  have h := hrn_append (ns.take i) (ns.drop i)
  rw [List.take_append_drop, List.length_drop, hn] at h
  exact h
theorem hrn_drop_bound {ns : List Int} (hn : ns.length = 7) (hc : ∀ c ∈ ns, 0 ≤ c ∧ c < 55296) {i : Nat} (hi : i < 7) : 0 ≤ hrn (ns.drop i) ∧ hrn (ns.drop i) < 65536 ^ (7 - i) := by
  have h := hrn_bound _ (ns.drop i) rfl fun c h => c16 hc c (List.mem_of_mem_drop h)
  rw [List.length_drop, hn] at h
  exact h
theorem hrn_parted {ns : List Int} (hn : ns.length = 7) (hc : ∀ c ∈ ns, 0 ≤ c ∧ c < 55296) {i : Nat} (hi : i < 7) : hrn ns / 65536 ^ (7 - i) = hrn (ns.take i) ∧ hrn ns % 65536 ^ (7 - i) = hrn ns - hrn (ns.take i) * 65536 ^ (7 - i) := by
  have h := hrn_cut hn hi
  have hb := hrn_drop_bound hn hc hi
  have h2 := dm_unique (a := hrn ns) (b := 65536 ^ (7 - i)) (q := hrn (ns.take i)) (r := hrn (ns.drop i)) (Int.pow_pos (by decide)) hb.1 hb.2 h.symm
  exact ⟨h2.1.symm, by rw [← h2.2]; lia⟩
theorem hrn_less {cs : List Int} (hl : cs.length = 7) (hc : ∀ c ∈ cs, 0 ≤ c ∧ c < 55296) : 0 ≤ hrn cs ∧ hrn cs < 65536 ^ 7 - 1 := by
  rcases List.eq_nil_or_concat cs with rfl | ⟨r, c, rfl⟩
  · simp at hl
  · rw [List.concat_eq_append] at *
    have hr : r.length = 6 := by simpa using hl
    have h1 := hrn_bound 6 r hr fun x hx => c16 hc x (List.mem_append_left _ hx)
    have h2 := hc c (List.mem_append_right _ (.head _))
    rw [hrn_snoc, Int.pow_succ]
    generalize (65536 : Int) ^ 6 = P at *
    lia
theorem hrn_rot {ns : List Int} (hn : ns.length = 7) {i : Nat} (hi : i < 7) : hrn ns * 65536 ^ i = hrn (ns.take i) * (65536 ^ 7 - 1) + hrn (rot ns i) := by
  have h1 := hrn_cut hn hi
  have h2 := hrn_append (ns.drop i) (ns.take i)
  rw [List.length_take, Nat.min_eq_left (by lia)] at h2
  have h3 : (65536 : Int) ^ 7 = 65536 ^ (7 - i) * 65536 ^ i := by rw [← Int.pow_add, show 7 - i + i = 7 by lia]
  unfold rot
  rw [h2, h1, h3, Int.add_mul, Int.mul_assoc, Int.mul_sub, Int.mul_one]
  lia
theorem hrn_gone {ns : List Int} (hn : ns.length = 7) (hc : ∀ c ∈ ns, 0 ≤ c ∧ c < 55296) {i : Nat} (hi : i < 7) : hrn ns * 65536 ^ (i + i % 2 * 7) / (65536 ^ 7 - 1) = goneZ ns i ∧ hrn ns * 65536 ^ (i + i % 2 * 7) % (65536 ^ 7 - 1) = hrn (rot ns i) := by
  have hr := hrn_less (rot_length hn hi) fun c h => hc c (rot_mem h)
  have h := hrn_rot hn hi
  have hp : (0 : Int) < 65536 ^ 7 - 1 := by decide +kernel
  have key : goneZ ns i * (65536 ^ 7 - 1) + hrn (rot ns i) = hrn ns * 65536 ^ (i + i % 2 * 7) := by
    unfold goneZ
    split
    · rename_i ho
      rw [ho, Nat.one_mul, Int.pow_add, ← Int.mul_assoc]
      generalize hrn ns * 65536 ^ i = X at *
      rw [Int.add_mul, Int.mul_sub, Int.mul_one]
      lia
    · rename_i ho
      have he : i % 2 = 0 := by lia
      rw [he, Nat.zero_mul, Nat.add_zero, h]
  have h2 := dm_unique hp hr.1 hr.2 key
  exact ⟨h2.1.symm, h2.2.symm⟩
theorem trim_split : ∀ (n : Nat) (cs : List Int), cs.length = n → (∃ k, cs = trim cs ++ List.replicate k 0) ∧ (trim cs = [] ∨ ∃ ys z, trim cs = ys ++ [z] ∧ z ≠ 0)
  | 0, cs, h => by
    rw [List.length_eq_zero_iff.mp h, trim_nil]
    exact ⟨⟨0, rfl⟩, .inl rfl⟩
  | n + 1, cs, h => by
    rcases List.eq_nil_or_concat cs with rfl | ⟨r, c, rfl⟩
    · simp at h
    · rw [List.concat_eq_append] at *
      have hr : r.length = n := by simpa using h
      by_cases h0 : c = 0
      · subst h0
        rw [trim_zero]
        obtain ⟨⟨k, hk⟩, h2⟩ := trim_split n r hr
        refine ⟨⟨k + 1, ?_⟩, h2⟩
        rw [List.replicate_succ', ← List.append_assoc, ← hk]
      · rw [trim_keep h0]
        exact ⟨⟨0, by simp⟩, .inr ⟨r, c, rfl, h0⟩⟩
theorem trim_le (cs : List Int) : (trim cs).length ≤ cs.length := by
  obtain ⟨⟨k, hk⟩, _⟩ := trim_split _ cs rfl
  have := congrArg List.length hk
  rw [List.length_append] at this
  lia
theorem fill_trim (cs : List Int) : trim cs ++ List.replicate (cs.length - (trim cs).length) 0 = cs := by
  obtain ⟨⟨k, hk⟩, _⟩ := trim_split _ cs rfl
  have := congrArg List.length hk
  rw [List.length_append, List.length_replicate] at this
  have e : cs.length - (trim cs).length = k := by lia
  rw [e]; exact hk.symm
theorem dval_zeros (n : Nat) : ∀ k, dval n (List.replicate k 0) = 0
  | 0 => rfl
  | k + 1 => by
    rw [List.replicate_succ]
    show 0 + dval n (List.replicate k 0) * 2 ^ n = 0
    rw [dval_zeros n k]; simp
theorem dval_trim (n : Nat) (cs : List Int) : dval n (trim cs) = dval n cs := by
  have h := congrArg (dval n) (fill_trim cs)
  rw [dval_append, dval_zeros] at h
  rw [← h]; simp
theorem digs_dval (n : Nat) : ∀ ds : List Int, (∀ d ∈ ds, 0 ≤ d ∧ d < 2 ^ n) → digs n ds.length (dval n ds) = ds
  | [], _ => rfl
  | d :: r, h => by
    have h1 := h d (.head _)
    have hp : (0 : Int) < 2 ^ n := Int.pow_pos (by decide)
    show (d + dval n r * 2 ^ n) % 2 ^ n :: digs n r.length ((d + dval n r * 2 ^ n) / 2 ^ n) = d :: r
    rw [Int.add_mul_emod_self_right, Int.emod_eq_of_lt h1.1 h1.2, Int.add_mul_ediv_right _ _ (Int.ne_of_gt hp), Int.ediv_eq_zero_of_lt h1.1 h1.2, Int.zero_add, digs_dval n r fun x hx => h x (.tail _ hx)]
theorem digs_hrn {cs : List Int} (hc : ∀ c ∈ cs, 0 ≤ c ∧ c < 55296) : digs 16 ((Builtin.Int.intBits (hrn cs) + 16 - 1) / 16) (hrn cs) = trim cs.reverse := by
  have e : hrn cs = dval 16 (trim cs.reverse) := by rw [dval_trim, dval_hrn]
  have hb : ∀ d ∈ trim cs.reverse, 0 ≤ d ∧ d < 2 ^ 16 := fun d hd => by
    have h1 := fill_trim cs.reverse
    have h2 : d ∈ cs.reverse := by rw [← h1]; exact List.mem_append_left _ hd
    have h3 := c16 hc d (List.mem_reverse.mp h2)
    rw [e16]; exact h3
  have hv := dval_bound 16 (trim cs.reverse) hb
  have hcase := (trim_split _ cs.reverse rfl).2
  generalize trim cs.reverse = t at *
  rw [e]
  have hK : (Builtin.Int.intBits (dval 16 t) + 16 - 1) / 16 = t.length := by
    have h1 := bits_lt hv.1 hv.2
    rcases hcase with rfl | ⟨ys, z, rfl, hz⟩
    · simp at h1
      rw [h1]; rfl
    · rw [List.length_append, List.length_singleton] at h1 ⊢
      have h2 : ¬ Builtin.Int.intBits (dval 16 (ys ++ [z])) ≤ ys.length * 16 := fun q => by
        have h3 := lt_bits hv.1 q
        have h4 := dval_bound 16 ys fun d hd => hb d (List.mem_append_left _ hd)
        have h5 := hb z (List.mem_append_right _ (.head _))
        have ez : dval 16 [z] = z := by show z + dval 16 [] * 2 ^ 16 = z; simp [dval]
        rw [dval_append, ez] at h3
        have hp : (0 : Int) < 2 ^ (ys.length * 16) := Int.pow_pos (by decide)
        have h6 : 1 * 2 ^ (ys.length * 16) ≤ z * 2 ^ (ys.length * 16) := Int.mul_le_mul_of_nonneg_right (by lia) (Int.le_of_lt hp)
        rw [Int.one_mul] at h6
        lia
      lia
  rw [hK, digs_dval 16 t hb]
theorem Least.unique {ns : List Int} {M M' : Int} (h : Least ns M) (h' : Least ns M') : M = M' := by
  obtain ⟨k, k1, k2⟩ := h.at'
  obtain ⟨j, j1, j2⟩ := h'.at'
  have a := h.le j j1
  have b := h'.le k k1
  lia
theorem least_of (ns : List Int) : ∃ M, Least ns M := by
  have key : ∀ n : Nat, ∃ M, (∃ k, k < n + 1 ∧ cnt ns k = M) ∧ ∀ k, k < n + 1 → M ≤ cnt ns k := by
    intro n
    induction n with
    | zero => exact ⟨cnt ns 0, ⟨0, by omega, rfl⟩, fun k hk => by have : k = 0 := by omega
                                                                  rw [this]; omega⟩
    | succ n ih =>
      obtain ⟨M, ⟨k, k1, k2⟩, h⟩ := ih
      by_cases hc : cnt ns (n + 1) < M
      · exact ⟨cnt ns (n + 1), ⟨n + 1, by lia, rfl⟩, fun j hj => by
          rcases Nat.lt_or_ge j (n + 1) with q | q
          · have := h j q; lia
          · have : j = n + 1 := by lia
            rw [this]; lia⟩
      · exact ⟨M, ⟨k, by lia, k2⟩, fun j hj => by
          rcases Nat.lt_or_ge j (n + 1) with q | q
          · exact h j q
          · have : j = n + 1 := by lia
            rw [this]; lia⟩
  obtain ⟨M, h1, h2⟩ := key 6
  exact ⟨M, h1, h2⟩
theorem pow16 (k : Nat) : (65536 : Int) ^ k = 2 ^ (16 * k) := by
  have e : (65536 : Int) = 2 ^ 16 := by decide
  rw [e, ← Int.pow_mul]
theorem pow_mono2 {a b : Nat} (h : a ≤ b) : (2 : Int) ^ a ≤ 2 ^ b := by
  have := Nat.pow_le_pow_right (n := 2) (by decide) h
  exact_mod_cast this
theorem hrn_ok {ns : List Int} (hn : ns.length ≤ 7) (hc : ∀ c ∈ ns, 0 ≤ c ∧ c < 55296) : 0 ≤ hrn ns ∧ hrn ns < 2 ^ 112 := by
  have h1 := hrn_bound _ ns rfl fun c h => ⟨(hc c h).1, by have := (hc c h).2; lia⟩
  refine ⟨h1.1, Int.lt_of_lt_of_le h1.2 ?_⟩
  rw [pow16]
  exact pow_mono2 (by lia)
/-- what int_divmod asks of its numbers -/
theorem idm_ok {a b : Int} (h1 : 2 ^ 16 - 1 ≤ b) (h2 : b < 2 ^ 113) (h3 : a < 2 ^ 400) : 0 < b ∧ 0 < Builtin.Int.intBits b ∧ Builtin.Int.intBits b ≤ 2 ^ 10 ∧ a < 2 ^ (63 * Builtin.Int.intBits b) := by
  have e16 : (2 : Int) ^ 16 = 65536 := by decide
  have b0 : 0 < b := by lia
  have h16 : 16 ≤ Builtin.Int.intBits b := by
    rcases Nat.lt_or_ge (Builtin.Int.intBits b) 16 with q | q
    · have := lt_bits (k := 15) (Int.le_of_lt b0) (by lia)
      have e15 : (2 : Int) ^ 15 = 32768 := by decide
      lia
    · exact q
  exact ⟨b0, by lia, Nat.le_trans (bits_lt (Int.le_of_lt b0) h2) (by decide), Int.lt_of_lt_of_le h3 (pow_mono2 (by lia))⟩
theorem turn_nums {i e : Nat} {x : Int} (hi : i < 7) (x0 : 0 ≤ x) (x1 : x < 2 ^ 112) (he : e ≤ 13) : ((2 : Int) ^ 16 - 1 ≤ 65536 ^ (7 - i) ∧ (65536 : Int) ^ (7 - i) < 2 ^ 113) ∧ 0 ≤ x * 65536 ^ e ∧ x * 65536 ^ e < 2 ^ 400 := by
  rw [pow16, pow16]
  refine ⟨⟨?_, ?_⟩, Int.mul_nonneg x0 (Int.le_of_lt (Int.pow_pos (by decide))), ?_⟩
  · have := pow_mono2 (a := 16) (b := 16 * (7 - i)) (by lia); lia
  · exact Int.pow_lt_pow_of_lt (by decide) (by lia)
  · refine Int.lt_of_lt_of_le (Int.mul_lt_mul_of_pos_right x1 (Int.pow_pos (by decide))) ?_
    rw [← Int.pow_add]
    exact pow_mono2 (by lia)
end
section
section
theorem word32 : True := by
  k_with_none
  k_with "my enter" => ((refine wpAny_call ?_; refine' enterP ?k1 ?k2 ?k3 ?k5 ?kA ?kF ?kK ?k6 ?k7 ?k8 ?k9 ?kB ?_ ?c2 ?c3 ?c4 ?c5; (case kA => exact rfl); (case kF => exact rfl); (case kK => assumption); (case k1 => k_asm); (case k2 => k_asm); (case k3 => k_asm); (case k5 => k_asm); (case k6 => k_is); (case k7 => k_is); (case k8 => ktr_room); (case k9 => exact BindsTo.of_eq rfl); (case c5 => decide); (case kB => exact locs rfl); (case c2 => exact rfl); (case c3 => exact rfl); (case c4 => exact rfl); k_whole))
  k_with "my use" => (((case k1 => k_asm); (case k2 => k_asm); (case k3 => k_asm); (case k4 => k_asm); (case k5 => k_asm); (case kK => first | exact rfl | assumption); (case kd => ktr_room); (case ku => ktr_units)))
  k_with "pyIter ref" => (refine Hold.out ?_)
  k_with "UnrEnd" => (refine Hold.out ?_)
  k_with "callWith" => (((with_reducible show wpAny _ _ (callWith _ (Prod.fst _) (Prod.snd _) _ _) _ _ _); dsimp only; (with_reducible refine callWith_method1 ?_ ?he ?hp); (case he => rfl); (case hp => rfl)))
  k_with "call builtin:list.append" => (((show wpAny _ _ (call (Value.builtin "list.append") [Value.ref _, _]) _ _ _); k_dflt (refine' append_list ?k1 ?k2 ?k3 ?z ?_; (case k1 => k_asm); (case k2 => k_asm); (case k3 => k_upd); (case z => walk_at "my size"); k_whole); intro _ _ _; (try dsimp only)))
  k_with "my size" => (first | with_reducible assumption | exact Nat.le_of_ble_eq_true rfl | (rw [sizeLine_eq]; omega))
  k_with "my fits" => (first | with_reducible assumption | omega)
  k_with "newList" => ((k_dflt (refine' newl_made ?k1 ?k2 ?_ ?z; (case k1 => k_asm); (case k2 => k_asm); (case z => walk_at "my size"); k_whole); intro _ _ _ _ _; (try dsimp only)))
  k_with "call type:reversed" => ((k_here; (with_reducible show wpAny _ _ (call (Value.type _) [Value.ref _]) _ _ _); k_dflt (refine' krv_reversed ?F ?N ?l ?_; (case F => k_asm); (case N => k_asm); (case l => is_list)); intro _ _ _ _ _))
  k_with "call builtin:list.reverse" => (((show wpAny _ _ (call (Value.builtin "list.reverse") [Value.ref _]) _ _ _); k_dflt (refine' rev_made ?k1 ?k2 ?k3 ?z ?_; (case k1 => k_asm); (case k2 => k_asm); (case k3 => k_upd); (case z => walk_at "my size"); k_whole); intro _ _ _; (try dsimp only)))
  k_with "call builtin:len" => (((show wpAny _ _ (call (Value.builtin "len") [Value.ref _]) _ _ _); k_dflt (refine' len_made ?k1 ?k2 ?k3 ?k4 ?_; (case k1 => k_asm); (case k2 => k_mem); (case k3 => (first | exact rfl | assumption)); (case k4 => first | decide | walk_at "my fits")); (try dsimp only)))
  k_with "call builtin:list.pop" => (((show wpAny _ _ (call (Value.builtin "list.pop") [Value.ref _]) _ _ _); k_dflt (refine' pop_made ?k1 ?k2 ?k3 ?z ?_; (case k1 => k_asm); (case k2 => k_asm); (case k3 => k_upd); (case z => walk_at "my size"); k_whole); intro _ _ _; (try dsimp only)))
  k_with "binaryOp Add ref ref" => (((with_reducible show wpAny _ _ (binaryOp _ (Value.ref _) (Value.ref _)) _ _ _); k_dflt (refine' add_made ?k1 ?k2 ?k3 ?k4 ?z ?_; (case k1 => k_asm); (case k2 => k_asm); (case k3 => k_mem); (case k4 => k_mem); (case z => walk_at "my size"); k_whole); intro _ _ _ _ _; (try dsimp only)))
  k_with "newList" => ((k_dflt (refine' newl_made ?k1 ?k2 ?_ ?z; (case k1 => k_asm); (case k2 => k_asm); (case z => walk_at "my size"); k_whole); intro _ _ _ _ _; walk_at "my of"; walk_at "my lt"; (try dsimp only)))
  k_with "call type:reversed" => ((k_here; (with_reducible show wpAny _ _ (call (Value.type _) [Value.ref _]) _ _ _); k_dflt (refine' krv_reversed ?F ?N ?l ?_; (case F => k_asm); (case N => k_asm); (case l => is_list)); intro _ _ _ _ _; walk_at "my of"; walk_at "my lt"))
  k_with "binaryOp Add ref ref" => (((with_reducible show wpAny _ _ (binaryOp _ (Value.ref _) (Value.ref _)) _ _ _); k_dflt (refine' add_made ?k1 ?k2 ?k3 ?k4 ?z ?_; (case k1 => k_asm); (case k2 => k_asm); (case k3 => k_mem); (case k4 => k_mem); (case z => walk_at "my size"); k_whole); intro _ _ _ _ _; walk_at "my of"; walk_at "my lt"; (try dsimp only)))
  k_with "newTuple" => ((k_here; k_dflt (refine' kup_newTuple ?F ?N ?_ ?z; (case F => k_asm); (case N => k_asm); (case z => exact Nat.le_of_ble_eq_true rfl)); intro _ _ _ _ _; walk_at "my of"; walk_at "my lt"; (try dsimp only)))
  k_with "call type:list" => ((k_here; (with_reducible show wpAny _ _ (call (Value.type _) [Value.ref _]) _ _ _); k_dflt (refine' listRev_I ?h ?F ?N ?o ?e ?l ?z ?_; (case h => exact rfl); (case F => k_asm); (case N => assumption); (case o => assumption); (case e => k_mem); (case l => assumption); (case z => assumption)); intro _ _ _ _ _ _ _ _ _; walk_at "my lt"; (try dsimp only)))
  exact True.intro
theorem mul_zero {prog : Program} {w : World} {A : Around} {E : Value → Shared → Prop} {s : Shared} {h₀ : Heap} {L l : Addr} {m : Str → Option Value} {news : List (Addr × Obj)} {j k : Nat} {t u : Tok} {Q : Value → Shared → Prop} (F : Fr h₀ L s.heap m) (N : News h₀ L s.heap news)
    (ml : (l, W.listOf [Value.int 0 t].toArray j) ∈ news) (hz : k ≤ 2 ^ 20)
    (h : ∀ a' h' vs, Fr h₀ L h' m → News h₀ L h' ((a', W.listOf (List.toArray vs) 0) :: news) → LtAll news a' → IntsAre vs (List.replicate k 0) → Q (.ref a') { s with heap := h' }) :
    wpAny (model prog w) A (binaryOp .Mult (.ref l) (.int (k : Int) u)) Q E s :=
  mul_made F N ml hz fun a' h' F' N' l' => h a' h' _ F' N' (LtAll.of l') (ints_rep t k)
noncomputable def lawDef : Option (List Stmt × Scope) :=
  match Challenge.pw_pg0127_01.main.body.find? (fun st => match st with | .FunctionDef n .. => n == "law" | _ => false) with
  | some (.FunctionDef _ _ body _ _ _ sc _ _ _) => some (body, sc)
  | _ => none
noncomputable def lawTurn : Option (List Stmt × Scope) :=
  match lawDef with
  | some (body, sc) => (match (body : List Stmt).drop 3 with | Stmt.For _ _ tb _ _ :: _ => some ((tb : List Stmt), sc) | _ => none)
  | _ => none
noncomputable def LawOut (nm : List Str) (g : Heap) (L : Addr) (m : Str → Option Value) (s : Shared) (to : Addr) (k : Nat) (rs : List Value) (rest : List (Addr × Obj)) (e : Dat) (f : Flow) (s₂ : Shared) : Prop :=
  f = .next ∧ ∃ h' tk m' os' v p q tc, s₂ = { s with heap := h', toks := tk } ∧ Fr g L h' m' ∧ News g L h' ((to, W.listOf (rs ++ [v]).toArray (k + 1)) :: (os' ++ (rest ++ tabL p q tc))) ∧ Tabs g p q tc ∧
    (∀ p ∈ os', p.1 ≠ to ∧ p.1 ≠ 93 ∧ p.1 ≠ 86 ∧ ∀ q ∈ rest, q.1 ≠ p.1) ∧ DatIn os' v e ∧ ∀ z, z ∉ nm → m' z = m z
noncomputable def OffL (to : Addr) (rest : List (Addr × Obj)) (a : Addr) : Prop := a ≠ to ∧ a ≠ 93 ∧ a ≠ 86 ∧ ∀ q ∈ rest, q.1 ≠ a
theorem law_end {g h' : Heap} {L : Addr} {m m' : Str → Option Value} {s : Shared} {tk k kE kC kT : Nat} {to E T C : Addr} {rs vC : List Value} {all rest n5 tc : List (Addr × Obj)} {fv : Value} {fd : Dat} {gz f0 lo : Int} {tg t0 tl : Tok} {cs : List Int} {p q : Array Value} {nm : List Str}
    (F : Fr g L h' m') (N : News g L h' all) (G : Tabs g p q tc) (iTo : (to, W.listOf (rs ++ [Value.ref E]).toArray (k + 1)) ∈ all) (iE : (E, W.listOf [Value.ref T, .int gz tg, .ref C, fv].toArray kE) ∈ all) (iC : (C, W.listOf vC.toArray kC) ∈ all) (iT : (T, ({ cls := .type "tuple", data := .seq [Value.int f0 t0, .int lo tl].toArray kT } : Obj)) ∈ all)
    (i5 : ∀ p ∈ n5, p ∈ all) (iR : ∀ x ∈ rest ++ tabL p q tc, x ∈ all) (oE : OffL to rest E) (oC : OffL to rest C) (oT : OffL to rest T) (o5 : ∀ p ∈ n5, OffL to rest p.1) (hw : IntsAre vC cs) (hf : DatIn n5 fv fd) (hm : ∀ z, z ∉ nm → m' z = m z) :
    LawOut nm g L m s to k rs rest (.list [.tuple [.int f0, .int lo], .int gz, .list (cs.map Dat.int), fd]) .next { s with heap := h', toks := tk } := by
  refine ⟨rfl, h', tk, m', (E, W.listOf [Value.ref T, .int gz tg, .ref C, fv].toArray kE) :: (C, W.listOf vC.toArray kC) :: (T, ({ cls := .type "tuple", data := .seq [Value.int f0 t0, .int lo tl].toArray kT } : Obj)) :: n5, .ref E, p, q, tc, rfl, F, ?_, G, ?_, ?_, hm⟩
  · intro x hx
    refine N x ?_
    rcases List.mem_cons.mp hx with rfl | hx
    · exact iTo
    rcases List.mem_append.mp hx with hx | hx
    · rcases List.mem_cons.mp hx with rfl | hx
      · exact iE
      rcases List.mem_cons.mp hx with rfl | hx
      · exact iC
      rcases List.mem_cons.mp hx with rfl | hx
      · exact iT
      exact i5 x hx
    · exact iR x hx
  · exact List.forall_mem_cons.mpr ⟨oE, List.forall_mem_cons.mpr ⟨oC, List.forall_mem_cons.mpr ⟨oT, o5⟩⟩⟩
  · exact .list (.head _) (.cons (.tuple (.tail _ (.tail _ (.head _))) (.cons (.int _ _) (.cons (.int _ _) .nil))) (.cons (.int _ _) (.cons (.list (.tail _ (.head _)) (dat_ints hw)) (.cons (hf.mono fun p hp => .tail _ (.tail _ (.tail _ hp))) .nil))))
theorem read_made {h h' : Heap} {r : Value} {o : Option (List (List Int))} {fd : Dat} (po : match o with | none => r = .none | some xss => ∃ n, Made h h' n ∧ DatIn n r (.list (datLL xss))) (hr : match (generalizing := false) o with | none => fd = .none | some xss => fd = .list (datLL xss)) : ∃ n, Made h h' n ∧ DatIn n r fd := by
  cases o with
  | none =>
    dsimp only at po hr
    rw [po, hr]
    exact ⟨[], (fun _ h => nomatch h), .none⟩
  | some xss =>
    dsimp only at po hr
    rw [hr]
    exact po
theorem news_mid {h₀ h : Heap} {L : Addr} {n pre post : List (Addr × Obj)} (N : News h₀ L h (n ++ (pre ++ post))) : News h₀ L h (pre ++ (n ++ post)) := fun p hp => N p (by
  rcases List.mem_append.mp hp with hp | hp
  · exact List.mem_append_right _ (List.mem_append_left _ hp)
  rcases List.mem_append.mp hp with hp | hp
  · exact List.mem_append_left _ hp
  · exact List.mem_append_right _ (List.mem_append_right _ hp))
section
theorem word33 : True := by
  k_with "call builtin:len" => (refine Hold.out ?_)
  k_with "call ref" => (refine Hold.out ?_)
  k_with "binaryOp Mult int int" => (((with_reducible show wpAny _ _ (binaryOp _ (Value.int _ _) (Value.int (65536 ^ _) _)) _ _ _); k_dflt (refine r_mulP (by with_reducible assumption) (by with_reducible assumption) ?_); (try dsimp only)))
  k_with "binaryOp Mult ref int" => (refine Hold.out ?_)
  exact True.intro
theorem law_turn (w : World) (mean : ExcName → Option Value) (mg mb : Str → Option Value) {body : List Stmt} {scope : Scope} (hdef : lawTurn = some (body, scope)) (ns : List Int) (M : Int) (HM : Least ns M) (hn : ns.length = 7) (hc : ∀ c ∈ ns, 0 ≤ c ∧ c < 55296) (i : Nat) (hi : i < 7) :
    ∀ (fa : Addr) (cdv : Value) (base g : Heap) (L' : Addr) (m : Str → Option Value) (s : Shared) (E : Value → Shared → Prop) (to : Addr) (k : Nat) (rs : List Value) (rest : List (Addr × Obj)) (p q : Array Value) (tc : List (Addr × Obj)) (ti tn : Tok),
    Below callerA base [] g → (Mine.hd.heap_39 w.params).In g → Top topProg loose0 mean mg mb g → Fr g L' s.heap m → News g L' s.heap ((to, W.listOf rs.toArray k) :: (rest ++ tabL p q tc)) → Tabs g p q tc → (∀ x ∈ rest, x.1 ≠ to ∧ x.1 ≠ 93 ∧ x.1 ≠ 86) → (to ≠ 93 ∧ to ≠ 86) → rs.length ≤ 63 →
    m (Str.ofString "number") = some (.int (hrn ns) tn) → m (Str.ofString "turn") = some (.int (i : Int) ti) → m (Str.ofString "told") = some (.ref to) →
    PassesOwn (model Challenge.rw_pg0127_01.row.prog w) (callerA.deeper (envOf "law" scope L' fa cdv)) (envOf "law" scope L' fa cdv) E →
    wpAny (model Challenge.rw_pg0127_01.row.prog w) (callerA.deeper (envOf "law" scope L' fa cdv)) (execs body (envOf "law" scope L' fa cdv))
      (LawOut ["turn", "parted", "gone", "turned", "codes", "filled"] g L' m s to k rs rest (entD ns M i)) E s := by
  have e0 : lawTurn = some (_, _) := rfl
  rw [e0] at hdef
  cases hdef
  clear e0
  w_on; k_fill
  intro fa cdv base g L' m s E to k rs rest p q tc ti tn B' X' T' F N G hrest hto hrs m1 m2 m3 hE
  have em := lay_of [(Str.ofString "number", .int (hrn ns) tn), (Str.ofString "turn", .int (i : Int) ti), (Str.ofString "told", .ref to)] m m rfl (by
    intro p hp
    simp only [List.mem_cons, List.not_mem_nil, or_false] at hp
    rcases hp with rfl | rfl | rfl <;> assumption)
  have F0 := F
  rw [em] at F
  simp only [lay] at F
  clear F0
  have hmz : ∀ z, lay [(Str.ofString "number", .int (hrn ns) tn), (Str.ofString "turn", .int (i : Int) ti), (Str.ofString "told", .ref to)] m z = m z := fun z => (congrFun em z).symm
  simp only [lay] at hmz
  have h7i : i < 7 := hi
  have h0i : 0 ≤ (i : Int) := Int.natCast_nonneg i
  have hN := hrn_ok (Nat.le_of_eq hn) hc
  have hbw : Builtin.Int.intBits (hrn ns) ≤ 2 ^ 20 := bits_hrn hc (by lia)
  have hi2 : (i : Int).fmod 2 = ((i % 2 : Nat) : Int) := by rw [Int.fmod_eq_emod_of_nonneg _ (by decide)]; lia
  have q7 : ((7 : Int) - (i : Int)).toNat = 7 - i := by lia
  have he : i + i % 2 * 7 ≤ 13 := by lia
  have qe : ((i : Int) + (i : Int).fmod 2 * 7).toNat = i + i % 2 * 7 := by rw [hi2]; lia
  have hk3 : ((i : Int) + (i : Int).fmod 2 * 7).toNat ≤ 1000 := by lia
  have hnum := turn_nums (e := i + i % 2 * 7) hi hN.1 hN.2 he
  have ok1 := idm_ok hnum.1.1 hnum.1.2 (Int.lt_of_lt_of_le hN.2 (pow_mono2 (show 112 ≤ 400 by decide)))
  rw [← q7] at ok1
  have hp1 := hrn_parted hn hc hi
  rw [← q7] at hp1
  (try dsimp only); (try k_fold)
  k_steps
  show wpAny _ _ _ _ _ _
  refine tellT_use ((to, W.listOf rs.toArray k) :: rest) (c_idm w mean mg mb (hrn ns) (65536 ^ ((7 : Int) - (i : Int)).toNat) _ _ hN.1 ok1.1 ok1.2.1 ok1.2.2.1 ok1.2.2.2) B' F X' N G (List.forall_mem_cons.mpr ⟨hto, fun x hx => (hrest x hx).2⟩) T' rfl True.intro (by ktr_room) (by ktr_units) ?_
  rintro r h2 tk2 p2 q2 tc2 F2 N2 G2 k2 ⟨lT, t1, t2, rfl, en, e2⟩
  rw [hp1.1, hp1.2] at e2
  have NT := made_ne N en
  have t93 := tab_ne1 (top := (to, W.listOf rs.toArray k) :: rest) N en
  have t86 := tab_ne2 (top := (to, W.listOf rs.toArray k) :: rest) N en
  have N3 := made_news F N2 (made_one en e2)
  dsimp only [List.nil_append, List.cons_append] at N3
  clear N2 F N
  (try dsimp only)
  k_steps
  show wpAny _ _ _ _ _ _
  rename_i Fa Na _ _
  have e77 : Int.toNat 7 = 7 := rfl
  have ok2 := idm_ok (a := hrn ns * 65536 ^ ((i : Int) + (i : Int).fmod 2 * 7).toNat) (b := 65536 ^ Int.toNat 7 - 1) (by rw [e77]; decide +kernel) (by rw [e77]; decide +kernel) (by rw [qe]; exact hnum.2.2)
  have a2 : 0 ≤ hrn ns * 65536 ^ ((i : Int) + (i : Int).fmod 2 * 7).toNat := by rw [qe]; exact hnum.2.1
  have hp2 : hrn ns * 65536 ^ ((i : Int) + (i : Int).fmod 2 * 7).toNat / (65536 ^ Int.toNat 7 - 1) = goneZ ns i ∧ hrn ns * 65536 ^ ((i : Int) + (i : Int).fmod 2 * 7).toNat % (65536 ^ Int.toNat 7 - 1) = hrn (rot ns i) := by
    rw [qe, e77]; exact hrn_gone hn hc hi
  refine tellT_use ((lT, _) :: (to, W.listOf rs.toArray k) :: rest) (c_idm w mean mg mb (hrn ns * 65536 ^ ((i : Int) + (i : Int).fmod 2 * 7).toNat) (65536 ^ Int.toNat 7 - 1) _ _ a2 ok2.1 ok2.2.1 ok2.2.2.1 ok2.2.2.2) B' Fa X' Na G2 (List.forall_mem_cons.mpr ⟨⟨Ne.symm t93, Ne.symm t86⟩, List.forall_mem_cons.mpr ⟨hto, fun x hx => (hrest x hx).2⟩⟩) T' rfl True.intro (by ktr_room) (by ktr_units) ?_
  rintro r h3 tk3 p3 q3 tc3 F3 N3' G3 k3 ⟨lG, t3, t4, rfl, en3, e3⟩
  rw [hp2.1, hp2.2] at e3
  have NG := made_ne Na en3
  have g93 := tab_ne1 (top := (lT, _) :: (to, W.listOf rs.toArray k) :: rest) Na en3
  have g86 := tab_ne2 (top := (lT, _) :: (to, W.listOf rs.toArray k) :: rest) Na en3
  have N5 := made_news Fa N3' (made_one en3 e3)
  dsimp only [List.nil_append, List.cons_append] at N5
  clear N3' Fa Na
  (try dsimp only)
  k_steps
  show wpAny _ _ _ _ _ _
  rename_i Fa Na
  have hrl := rot_length hn hi
  have hrc : ∀ c ∈ rot ns i, 0 ≤ c ∧ c < 55296 := fun c h => hc c (rot_mem h)
  have hR := hrn_ok (Nat.le_of_eq hrl) hrc
  refine tellT_use ((lG, _) :: (lT, _) :: (to, W.listOf rs.toArray k) :: rest) (c_i2d w mean mg mb (hrn (rot ns i)) 16 _ _ hR.1 (by decide) (by decide) (Int.lt_of_lt_of_le hR.2 (pow_mono2 (by decide)))) B' Fa X' Na G3 (List.forall_mem_cons.mpr ⟨⟨Ne.symm g93, Ne.symm g86⟩, List.forall_mem_cons.mpr ⟨⟨Ne.symm t93, Ne.symm t86⟩, List.forall_mem_cons.mpr ⟨hto, fun x hx => (hrest x hx).2⟩⟩⟩) T' rfl True.intro (by ktr_room) (by ktr_units) ?_
  rintro r h4 tk4 p4 q4 tc4 F4 N4' G4 k4 ⟨lC, vC, kC, rfl, en4, e4, iC⟩
  rw [digs_hrn hrc] at iC
  have NC := made_ne Na en4
  have c93 := tab_ne1 (top := (lG, _) :: (lT, _) :: (to, W.listOf rs.toArray k) :: rest) Na en4
  have c86 := tab_ne2 (top := (lG, _) :: (lT, _) :: (to, W.listOf rs.toArray k) :: rest) Na en4
  have N6 := made_news Fa N4' (made_one en4 e4)
  dsimp only [List.nil_append, List.cons_append] at N6
  have cTo := G4.off N6 (D := to) (.tail _ (.tail _ (.tail _ (.head _)))) (fun y hy => .tail _ (.tail _ (.tail _ (.tail _ (List.mem_append_right _ (.tail _ (.tail _ hy))))))) noCode_seq
  clear N4' Fa Na
  have hCl := iC.length
  have hC7 : vC.length ≤ 7 := by have := trim_le (rot ns i).reverse; rw [List.length_reverse, hrl] at this; lia
  have hC62 : vC.length < 2 ^ 62 := Nat.lt_of_le_of_lt hC7 (by decide)
  (try dsimp only)
  k_steps
  show wpAny _ _ _ _ _ _
  refine len_made (by assumption) (by k_mem) rfl hC62 ?_
  (try dsimp only)
  k_steps
  show wpAny _ _ _ _ _ _
  have e7c : (7 : Int) - (vC.length : Int) = ((7 - vC.length : Nat) : Int) := by lia
  rw [e7c]
  refine mul_zero (by assumption) (by assumption) (by k_mem) (Nat.le_trans (Nat.sub_le 7 _) (by decide)) ?_
  intro aM hM vZ FM NM lM iZ
  walk_at "my lt"
  (try dsimp only)
  have iF : IntsAre (vC ++ vZ) (rot ns i).reverse := by
    have h1 := iC.append iZ
    have h2 := fill_trim (rot ns i).reverse
    rw [List.length_reverse, hrl] at h2
    rw [hCl, h2] at h1
    exact h1
  have hZl := iZ.length
  rw [List.length_replicate] at hZl
  have hvz : vC.length + vZ.length ≤ sizeLine := by rw [sizeLine_eq]; lia
  have hrz : (rot ns i).reverse.length ≤ sizeLine := by rw [List.length_reverse, hrl, sizeLine_eq]; decide
  k_steps
  show wpAny _ _ _ _ _ _
  rename_i Fa Na _ iRR _ _ _ _ _ _ _ _
  rw [List.reverse_reverse] at iRR
  have hrr := rread_rot hn HM hi
  refine tell_use (c_read w mean mg mb _ _ (rot ns i) _ iRR (by lia) hrc) B' Fa X' Na T' rfl (News.isList Na (.head _)) (by ktr_room) (by ktr_units) ?_
  rintro r h5 tk5 F5 N5' k5 po
  obtain ⟨n5, M5, D5⟩ := read_made po hrr
  have o5 : ∀ p ∈ n5, OffL to rest p.1 := fun p hp => ⟨made_off Na (by k_mem) M5 p hp, made_off Na (o := tabObj p4) (by k_mem) M5 p hp, made_off Na (o := tabObj q4) (by k_mem) M5 p hp, fun x hx => Ne.symm (made_off Na (o := x.2) (.tail _ (.tail _ (.tail _ (.tail _ (.tail _ (.tail _ (.tail _ (.tail _ (List.mem_append_left _ hx))))))))) M5 p hp)⟩
  have N7 := news_mid (pre := [_, _, _, _, _, _, _, _]) (post := rest ++ tabL p4 q4 tc4) (made_news Fa N5' M5)
  dsimp only [List.nil_append, List.cons_append] at N7
  have o5a : ∀ p ∈ n5, p.1 ≠ to := fun p hp => (o5 p hp).1
  have hr1 : ∀ p ∈ rest, p.1 ≠ to := fun x hx => (hrest x hx).1
  have w93 : (93 : Addr) ≠ to := Ne.symm hto.1
  have w86 : (86 : Addr) ≠ to := Ne.symm hto.2
  have nT := NT.hd
  have nG := NG.tl.hd
  have nC := NC.tl.tl.hd
  have hfv := D5.handed
  have hrz2 : rs.length ≤ sizeLine := by rw [sizeLine_eq]; lia
  clear N5' Fa Na
  (try dsimp only)
  k_steps
  rename_i lz _ _ _ _ _ _ _ nzE lzR _ Fy Ny
  have lzA := fun p hp => Nat.ne_of_lt (lzR p hp)
  obtain ⟨_, lzB⟩ := List.forall_mem_append.mp lzA
  obtain ⟨lzC, lzD⟩ := List.forall_mem_append.mp lzB
  have oE : OffL to rest _ := ⟨Ne.symm nzE, Ne.symm (lzD (93, tabObj p4) (.head _)), Ne.symm (lzD (86, tabObj q4) (.tail _ (.head _))), lzC⟩
  have oT : OffL to rest lT := ⟨Ne.symm nT, Ne.symm t93, Ne.symm t86, fun x hx => NT.tl x (List.mem_append_left _ hx)⟩
  have oC : OffL to rest lC := ⟨Ne.symm nC, Ne.symm c93, Ne.symm c86, fun x hx => NC.tl.tl.tl x (List.mem_append_left _ hx)⟩
  rw [q7] at Ny
  unfold entD
  refine law_end Fy Ny G4 (by k_mem) (.head _) (by k_mem) (by k_mem) ?i5 ?iR oE oC oT o5 iC D5 ?hm
  case i5 => (intro x hx; iterate 9 refine List.Mem.tail _ ?_
              exact List.mem_append_left _ hx)
  case iR => (intro x hx; iterate 9 refine List.Mem.tail _ ?_
              exact List.mem_append_right _ hx)
  case hm =>
    intro z hz
    simp only [List.mem_cons, List.not_mem_nil, or_false, not_or] at hz
    obtain ⟨z1, z2, z3, z4, z5, z6⟩ := hz
    simp only [if_neg z2, if_neg z3, if_neg z4, if_neg z5, if_neg z6]
    exact hmz z
end
end
section
theorem word34 : True := by
  k_with_none
  k_with "my enter" => ((refine wpAny_call ?_; refine' enterP ?k1 ?k2 ?k3 ?k5 ?kA ?kF ?kK ?k6 ?k7 ?k8 ?k9 ?kB ?_ ?c2 ?c3 ?c4 ?c5; (case kA => exact rfl); (case kF => exact rfl); (case kK => assumption); (case k1 => k_asm); (case k2 => k_asm); (case k3 => k_asm); (case k5 => k_asm); (case k6 => k_is); (case k7 => k_is); (case k8 => ktr_room); (case k9 => exact BindsTo.of_eq rfl); (case c5 => decide); (case kB => exact locs rfl); (case c2 => exact rfl); (case c3 => exact rfl); (case c4 => exact rfl); k_whole))
  k_with "my use" => (((case k1 => k_asm); (case k2 => k_asm); (case k3 => k_asm); (case k4 => k_asm); (case k5 => k_asm); (case kK => first | exact rfl | assumption); (case kd => ktr_room); (case ku => ktr_units)))
  k_with "pyIter ref" => (refine Hold.out ?_)
  k_with "UnrEnd" => (refine Hold.out ?_)
  k_with "callWith" => (((with_reducible show wpAny _ _ (callWith _ (Prod.fst _) (Prod.snd _) _ _) _ _ _); dsimp only; (with_reducible refine callWith_method1 ?_ ?he ?hp); (case he => rfl); (case hp => rfl)))
  k_with "call builtin:list.append" => (((show wpAny _ _ (call (Value.builtin "list.append") [Value.ref _, _]) _ _ _); k_dflt (refine' append_list ?k1 ?k2 ?k3 ?z ?_; (case k1 => k_asm); (case k2 => k_asm); (case k3 => k_upd); (case z => walk_at "my size"); k_whole); intro _ _ _; (try dsimp only)))
  k_with "my size" => (first | with_reducible assumption | exact Nat.le_of_ble_eq_true rfl | (rw [sizeLine_eq]; omega))
  k_with "my fits" => (first | with_reducible assumption | omega)
  k_with "newList" => ((k_dflt (refine' newl_made ?k1 ?k2 ?_ ?z; (case k1 => k_asm); (case k2 => k_asm); (case z => walk_at "my size"); k_whole); intro _ _ _ _ _; (try dsimp only)))
  k_with "call type:reversed" => ((k_here; (with_reducible show wpAny _ _ (call (Value.type _) [Value.ref _]) _ _ _); k_dflt (refine' krv_reversed ?F ?N ?l ?_; (case F => k_asm); (case N => k_asm); (case l => is_list)); intro _ _ _ _ _))
  k_with "call builtin:list.reverse" => (((show wpAny _ _ (call (Value.builtin "list.reverse") [Value.ref _]) _ _ _); k_dflt (refine' rev_made ?k1 ?k2 ?k3 ?z ?_; (case k1 => k_asm); (case k2 => k_asm); (case k3 => k_upd); (case z => walk_at "my size"); k_whole); intro _ _ _; (try dsimp only)))
  k_with "call builtin:len" => (((show wpAny _ _ (call (Value.builtin "len") [Value.ref _]) _ _ _); k_dflt (refine' len_made ?k1 ?k2 ?k3 ?k4 ?_; (case k1 => k_asm); (case k2 => k_mem); (case k3 => (first | exact rfl | assumption)); (case k4 => first | decide | walk_at "my fits")); (try dsimp only)))
  k_with "call builtin:list.pop" => (((show wpAny _ _ (call (Value.builtin "list.pop") [Value.ref _]) _ _ _); k_dflt (refine' pop_made ?k1 ?k2 ?k3 ?z ?_; (case k1 => k_asm); (case k2 => k_asm); (case k3 => k_upd); (case z => walk_at "my size"); k_whole); intro _ _ _; (try dsimp only)))
  k_with "binaryOp Add ref ref" => (((with_reducible show wpAny _ _ (binaryOp _ (Value.ref _) (Value.ref _)) _ _ _); k_dflt (refine' add_made ?k1 ?k2 ?k3 ?k4 ?z ?_; (case k1 => k_asm); (case k2 => k_asm); (case k3 => k_mem); (case k4 => k_mem); (case z => walk_at "my size"); k_whole); intro _ _ _ _ _; (try dsimp only)))
  k_with "newList" => ((k_dflt (refine' newl_made ?k1 ?k2 ?_ ?z; (case k1 => k_asm); (case k2 => k_asm); (case z => walk_at "my size"); k_whole); intro _ _ _ _ _; walk_at "my of"; walk_at "my lt"; (try dsimp only)))
  k_with "call type:reversed" => ((k_here; (with_reducible show wpAny _ _ (call (Value.type _) [Value.ref _]) _ _ _); k_dflt (refine' krv_reversed ?F ?N ?l ?_; (case F => k_asm); (case N => k_asm); (case l => is_list)); intro _ _ _ _ _; walk_at "my of"; walk_at "my lt"))
  k_with "binaryOp Add ref ref" => (((with_reducible show wpAny _ _ (binaryOp _ (Value.ref _) (Value.ref _)) _ _ _); k_dflt (refine' add_made ?k1 ?k2 ?k3 ?k4 ?z ?_; (case k1 => k_asm); (case k2 => k_asm); (case k3 => k_mem); (case k4 => k_mem); (case z => walk_at "my size"); k_whole); intro _ _ _ _ _; walk_at "my of"; walk_at "my lt"; (try dsimp only)))
  k_with "newTuple" => ((k_here; k_dflt (refine' kup_newTuple ?F ?N ?_ ?z; (case F => k_asm); (case N => k_asm); (case z => exact Nat.le_of_ble_eq_true rfl)); intro _ _ _ _ _; walk_at "my of"; walk_at "my lt"; (try dsimp only)))
  k_with "call type:list" => ((k_here; (with_reducible show wpAny _ _ (call (Value.type _) [Value.ref _]) _ _ _); k_dflt (refine' listRev_I ?h ?F ?N ?o ?e ?l ?z ?_; (case h => exact rfl); (case F => k_asm); (case N => assumption); (case o => assumption); (case e => k_mem); (case l => assumption); (case z => assumption)); intro _ _ _ _ _ _ _ _ _; walk_at "my lt"; (try dsimp only)))
  exact True.intro
/-- the made things between the turns of law -/
structure LD where
  rs : List Value
  os : List (Addr × Obj)
  k : Nat
  p : Array Value
  q : Array Value
  tc : List (Addr × Obj)
noncomputable abbrev ledL (to lL : Addr) (oL : Obj) (d : LD) : List (Addr × Obj) := (to, W.listOf d.rs.toArray d.k) :: (((lL, oL) :: d.os) ++ tabL d.p d.q d.tc)
noncomputable def LDok (g : Heap) (to : Addr) (Es : Nat → List Dat) (i : Nat) (d : LD) : Prop := DatAll d.os d.rs (Es i) ∧ (∀ x ∈ d.os, x.1 ≠ to ∧ x.1 ≠ 93 ∧ x.1 ≠ 86) ∧ Tabs g d.p d.q d.tc
theorem law_step {g : Heap} {L : Addr} {m m₀ : Str → Option Value} {s s₁ : Shared} {to I lL : Addr} {oL : Obj} {x y : Int} {Es : Nat → List Dat} {i : Nat} {d : LD} {e : Dat} {f : Flow} {s₂ : Shared} {h : Heap} {tk : Nat} {Q : Flow → Shared → Prop} {nm : List Str}
    (X : LawOut nm g L m s to d.k d.rs ((I, itR x y) :: (lL, oL) :: d.os) e f s₂) (es : s = { s₁ with heap := h, toks := tk }) (hd : LDok g to Es i d) (he : Es (i + 1) = Es i ++ [e]) (h1 : ∀ p ∈ ledL to lL oL d, p.1 ≠ I)
    (hm : ∀ z, z ∉ nm → m z = m₀ z) : UnrPost g L s₁ I (itR x y) (TurnedK nm m₀ (fun _ : LD => []) (ledL to lL oL) (LDok g to Es (i + 1))) Q f s₂ := by
  obtain ⟨rfl, h', tk', m', os', v, p, q, tc, rfl, F, N, G, off, hD, hz⟩ := X
  subst es
  obtain ⟨hD3, hos, hG⟩ := hd
  obtain ⟨a1, a2⟩ := List.forall_mem_cons.mp h1
  obtain ⟨a3, a4⟩ := List.forall_mem_append.mp a2
  obtain ⟨a5, a6⟩ := List.forall_mem_cons.mp a3
  obtain ⟨a7, a8⟩ := List.forall_mem_cons.mp a4
  obtain ⟨a9, _⟩ := List.forall_mem_cons.mp a8
  have iI : (I, itR x y) ∈ (to, W.listOf (d.rs ++ [v]).toArray (d.k + 1)) :: (os' ++ (((I, itR x y) :: (lL, oL) :: d.os) ++ tabL p q tc)) := .tail _ (List.mem_append_right _ (.head _))
  have subT : ∀ z ∈ tabL p q tc, z ∈ (to, W.listOf (d.rs ++ [v]).toArray (d.k + 1)) :: (os' ++ (((I, itR x y) :: (lL, oL) :: d.os) ++ tabL p q tc)) := fun z hz => .tail _ (List.mem_append_right _ (List.mem_append_right _ hz))
  have offT := G.off N iI (fun z hz => subT z (.tail _ (.tail _ hz))) noCode_itR
  show UnrEnd _ _ _ _ _ _ _
  refine turn_endK (⟨d.rs ++ [v], os' ++ d.os, d.k + 1, p, q, tc⟩ : LD) F N iI ?sub ?off (fun z h => (hz z h).trans (hm z h)) (fun _ h => nomatch h) ⟨?q1, ?q2, G⟩
  case sub =>
    intro z hz
    rcases List.mem_cons.mp hz with rfl | hz
    · exact .head _
    rcases List.mem_append.mp hz with hz | hz
    · rcases List.mem_cons.mp hz with rfl | hz
      · exact .tail _ (List.mem_append_right _ (.tail _ (.head _)))
      rcases List.mem_append.mp hz with hz | hz
      · exact .tail _ (List.mem_append_left _ hz)
      · exact .tail _ (List.mem_append_right _ (.tail _ (.tail _ (List.mem_append_left _ hz))))
    · exact subT z hz
  case off =>
    refine List.forall_mem_cons.mpr ⟨a1, List.forall_mem_append.mpr ⟨List.forall_mem_cons.mpr ⟨a5, List.forall_mem_append.mpr ⟨fun p hp => ?_, a6⟩⟩, List.forall_mem_cons.mpr ⟨a7, List.forall_mem_cons.mpr ⟨a9, offT⟩⟩⟩⟩
    exact Ne.symm ((off p hp).2.2.2 _ (.head _))
  case q1 =>
    rw [he]
    exact (hD3.mono fun p hp => List.mem_append_right _ hp).append (.one (hD.mono fun p hp => List.mem_append_left _ hp))
  case q2 => exact List.forall_mem_append.mpr ⟨fun p hp => ⟨(off p hp).1, (off p hp).2.1, (off p hp).2.2.1⟩, hos⟩
section
variable {prog : Program} {w : World} {A : Around} {E : Value → Shared → Prop} {s : Shared} {env : Env} {h₀ : Heap} {x : Str} {body : List Stmt} {Q : Flow → Shared → Prop}
theorem range_lawK {r : Addr} {a₀ b₀ : Int} {t₀ u₀ v₀ : Tok} {n : Nat} {m₀ : Str → Option Value} {to T0 lL : Addr} {o0 oL : Obj} {z : Addr × Obj} {rs0 : List Value} {k0 : Nat} {p q : Array Value} {tc : List (Addr × Obj)} (names : List Str) (Es : Nat → List Dat)
    (hh : A.handled = none) (hr : IsRange s.heap r a₀ b₀ 1 t₀ u₀ v₀) (hsmall : Builtin.Range.small a₀ b₀ 1 = true) (hn : Builtin.Range.rangeSize a₀ b₀ 1 = (n : Int)) (F : Fr h₀ env.locals s.heap m₀) (N : News h₀ env.locals s.heap ((to, W.listOf rs0.toArray k0) :: (T0, o0) :: z :: (lL, oL) :: tabL p q tc))
    (G : Tabs h₀ p q tc) (h0 : DatAll [(T0, o0)] rs0 (Es 0)) (o1 : T0 ≠ to ∧ T0 ≠ 93 ∧ T0 ≠ 86)
    (turn : ∀ I : Addr, ∀ i, i < n → ∀ u d, LDok h₀ to Es i d → (∀ p ∈ ledL to lL oL d, p.1 ≠ I) → ∀ t h tk, Fr h₀ env.locals h (fun y => if y = x then some (.int (a₀ + (i : Int)) t) else ovr names u m₀ y) →
      News h₀ env.locals h ((I, itR (a₀ + ((i + 1 : Nat) : Int)) ((n : Int) - ((i + 1 : Nat) : Int))) :: ledL to lL oL d) →
      wpAny (model prog w) A (execs body env) (UnrPost h₀ env.locals { s with heap := h, toks := tk } I (itR (a₀ + ((i + 1 : Nat) : Int)) ((n : Int) - ((i + 1 : Nat) : Int))) (TurnedK names m₀ (fun _ : LD => []) (ledL to lL oL) (LDok h₀ to Es (i + 1))) Q) E { s with heap := h, toks := tk })
    (done : ∀ u d, LDok h₀ to Es n d → ∀ h tk, Fr h₀ env.locals h (ovr names u m₀) → News h₀ env.locals h (ledL to lL oL d) → Q .next { s with heap := h, toks := tk }) :
    wpAny (model prog w) A (pyIter (.ref r)) (fun it s₂ => LoopAtV prog w A h₀ env x body Q E it s₂) E s := by
  refine range_dataO names (fun _ : LD => []) (ledL to lL oL) (LDok h₀ to Es) ⟨rs0, [(T0, o0)], k0, p, q, tc⟩ hh hr hsmall hn F (fun y hy => N y ?_) (fun _ h => nomatch h) ⟨h0, List.forall_mem_cons.mpr ⟨o1, List.forall_mem_nil _⟩, G⟩
    (fun I hI i hi u d hd' off t h tk F₁ N₁ => turn I i hi u d hd' off t h tk F₁ N₁) (fun u d hd' h tk F₁ N₁ => done u d hd' h tk F₁ N₁)
  rcases List.mem_cons.mp hy with rfl | hy
  · exact .head _
  rcases List.mem_cons.mp hy with rfl | hy
  · exact .tail _ (.tail _ (.tail _ (.head _)))
  rcases List.mem_cons.mp hy with rfl | hy
  · exact .tail _ (.head _)
  · exact .tail _ (.tail _ (.tail _ (.tail _ hy)))
end
theorem dec_true {P : Prop} (i : Decidable P) (h : P) : @decide P i = true := decide_eq_true h
theorem all_ok {P : Dat → Bool} : ∀ {ds : List Dat}, (∀ d ∈ ds, P d = true) → ds.all P = true := fun h => List.all_eq_true.mpr h
theorem ints_ok (n : Nat) (xs : List Int) : (xs.map Dat.int).all (kqdOk n) = true := by
  refine all_ok fun d hd => ?_
  obtain ⟨x, _, rfl⟩ := List.mem_map.mp hd
  cases n <;> rfl
theorem due_ok (ns : List Int) (M : Int) (i : Nat) : ∀ d ∈ dueD ns M i, kqdOk 8 d = true := by
  intro d hd
  unfold dueD at hd
  rcases List.mem_cons.mp hd with rfl | hd
  · simp [kqdOk]
  · obtain ⟨j, _, rfl⟩ := List.mem_map.mp hd
    have hf : kqdOk 7 (fmsD ns M j) = true := by
      unfold fmsD
      split
      · show (datLL _).all (kqdOk 6) = true
        refine all_ok fun d hd => ?_
        obtain ⟨x, _, rfl⟩ := List.mem_map.mp hd
        exact ints_ok 5 _
      · rfl
    unfold entD
    show List.all _ (kqdOk 7) = true
    have h3 : kqdOk 7 (.list ((trim (rot ns j).reverse).map Dat.int)) = true := ints_ok 6 _
    simp only [List.all_cons, List.all_nil, hf, h3, Bool.and_true]
    simp [kqdOk]
section
theorem word35 : True := by
  k_with "call ref" => (refine Hold.out ?_)
  k_with "compareOp Eq ref ref" => (refine Hold.out ?_)
  k_with "binaryOp Mult int int" => (((with_reducible show wpAny _ _ (binaryOp _ (Value.int _ _) (Value.int (65536 ^ _) _)) _ _ _); k_dflt (refine r_mulP (by with_reducible assumption) (by with_reducible assumption) ?_); (try dsimp only)))
  exact True.intro
theorem law_body (w : World) (mean : ExcName → Option Value) (mg mb : Str → Option Value) {body : List Stmt} {scope : Scope} (hdef : lawDef = some (body, scope)) (l : Addr) (vs : List Value) (ns0 : List Int) (hI0 : IntsAre vs ns0) (hn0 : ns0.length ≤ 63) :
    ∀ (fa : Addr) (cdv : Value) (base g : Heap) (L' : Addr) (m : Str → Option Value) (s : Shared) (Q : Flow → Shared → Prop) (E : Value → Shared → Prop) (ps qs : Array Value),
    Below callerA base [] g → (Mine.hd.heap_39 w.params).In g → Top topProg loose0 mean mg mb g → g.IsList l vs.toArray → Fr g L' s.heap m → News g L' s.heap (tabL ps qs []) → Tabs g ps qs [] → m (Str.ofString "script") = some (.ref l) →
    PassesOwn (model Challenge.rw_pg0127_01.row.prog w) (callerA.deeper (envOf "law" scope L' fa cdv)) (envOf "law" scope L' fa cdv) E →
    (∀ h' tk' m' p' q' led, Fr g L' h' m' → News g L' h' led → (93, tabObj p') ∈ led → (86, tabObj q') ∈ led → Q (.ret (.bool true)) { s with heap := h', toks := tk' }) →
    wpAny (model Challenge.rw_pg0127_01.row.prog w) (callerA.deeper (envOf "law" scope L' fa cdv)) (execs body (envOf "law" scope L' fa cdv)) Q E s := by
  have e0 : lawDef = some (_, _) := rfl
  rw [e0] at hdef
  cases hdef
  clear e0
  w_on; k_fill
  intro fa cdv base g L' m s Q E ps qs B' X' T' hpre F N G m1 hE hQ
  have em := lay_of [(Str.ofString "script", .ref l)] m m rfl (by
    intro p hp
    rw [List.mem_singleton.mp hp]; exact m1)
  have F0 := F
  rw [em] at F
  simp only [lay] at F
  clear F0
  (try dsimp only); (try k_fold)
  k_steps
  show wpAny _ _ _ _ _ _
  refine tell_use (c_line w mean mg mb l vs ns0 hI0 hn0) B' F X' N T' rfl (base_list F hpre) (by ktr_room) (by ktr_units) ?_
  rintro r h2 tk2 F2 N2 k2 ⟨lL, vL, ns, rfl, en, ⟨kL, eL⟩, iL, hn, hc⟩
  have l93 := tab_ne1 (top := []) N en
  have l86 := tab_ne2 (top := []) N en
  have N3 := made_news F N2 (made_one en eL)
  dsimp only [List.nil_append, List.cons_append, tabL] at N3
  clear N2 F N
  have hz : ns.length ≤ sizeLine := by rw [hn, sizeLine_eq]; decide
  have hN := hrn_ok (Nat.le_of_eq hn) hc
  have hbw : Builtin.Int.intBits (hrn ns) ≤ 2 ^ 20 := bits_hrn hc (by lia)
  have hk7 : Int.toNat 7 ≤ 1000 := by decide
  (try dsimp only)
  k_steps
  show wpAny _ _ _ _ _ _
  rename_i Fa Na _ iR _ r93 r86 _
  have hb16 : ∀ d ∈ ns.reverse, 0 ≤ d ∧ d < 2 ^ 16 := fun d hd => by
    have h1 := hc d (List.mem_reverse.mp hd)
    have e16 : (2 : Int) ^ 16 = 65536 := by decide
    lia
  refine tellT_use [_, (lL, W.listOf vL.toArray kL)] (c_d2i w mean mg mb _ _ ns.reverse 16 _ iR hb16 (by decide) (by rw [List.length_reverse]; lia)) B' Fa X' Na G (List.forall_mem_cons.mpr ⟨⟨Ne.symm r93, Ne.symm r86⟩, List.forall_mem_cons.mpr ⟨⟨Ne.symm l93, Ne.symm l86⟩, List.forall_mem_nil _⟩⟩) T' rfl (Na.isList (.head _)) (by ktr_room) (by ktr_units) ?_
  rintro r h3 tk3 p3 q3 tc3 F3 N3 G3 k3 ⟨t3, rfl⟩
  rw [dval_hrn]
  dsimp only [List.nil_append, List.cons_append] at N3
  clear Fa Na
  (try dsimp only)
  k_steps
  show wpAny _ _ _ _ _ _
  rename_i Fa Na
  have e77 : Int.toNat 7 = 7 := rfl
  have ok1 := idm_ok (a := hrn ns * 65536 ^ Int.toNat 7) (b := 65536 ^ Int.toNat 7) (by rw [e77]; decide +kernel) (by rw [e77]; decide +kernel) (by rw [e77]; exact (turn_nums (i := 0) (e := 7) (by decide) hN.1 hN.2 (by decide)).2.2)
  have a1 : 0 ≤ hrn ns * 65536 ^ Int.toNat 7 := by rw [e77]; exact (turn_nums (i := 0) (e := 7) (by decide) hN.1 hN.2 (by decide)).2.1
  have hp1 : hrn ns * 65536 ^ Int.toNat 7 / 65536 ^ Int.toNat 7 = hrn ns ∧ hrn ns * 65536 ^ Int.toNat 7 % 65536 ^ Int.toNat 7 = 0 := ⟨Int.mul_ediv_cancel _ (Int.ne_of_gt ok1.1), Int.mul_emod_left _ _⟩
  refine tellT_use [_, (lL, W.listOf vL.toArray kL)] (c_idm w mean mg mb (hrn ns * 65536 ^ Int.toNat 7) (65536 ^ Int.toNat 7) _ _ a1 ok1.1 ok1.2.1 ok1.2.2.1 ok1.2.2.2) B' Fa X' Na G3 (List.forall_mem_cons.mpr ⟨⟨Ne.symm r93, Ne.symm r86⟩, List.forall_mem_cons.mpr ⟨⟨Ne.symm l93, Ne.symm l86⟩, List.forall_mem_nil _⟩⟩) T' rfl True.intro (by ktr_room) (by ktr_units) ?_
  rintro r h4 tk4 p4 q4 tc4 F4 N4' G4 k4 ⟨lT, t1, t2, rfl, en4, e4⟩
  rw [hp1.1, hp1.2] at e4
  have NT := made_ne Na en4
  have t93 := tab_ne1 (top := [_, _]) Na en4
  have t86 := tab_ne2 (top := [_, _]) Na en4
  have N5 := made_news Fa N4' (made_one en4 e4)
  dsimp only [List.nil_append, List.cons_append] at N5
  clear N4' Fa Na
  (try dsimp only)
  k_steps
  show wpAny _ _ _ _ _ _
  obtain ⟨M, HM⟩ := least_of ns
  refine range_lawK (n := 7) ["turn", "parted", "gone", "turned", "codes", "filled"] (dueD ns M) rfl (by assumption) (by decide +kernel) (by decide +kernel) (by assumption) (by assumption) G4 (.cons (.tuple (.head _) (.cons (.int _ _) (.cons (.int _ _) .nil))) .nil) ⟨by with_reducible assumption, Ne.symm t93, Ne.symm t86⟩ ?turn ?done
  case turn =>
    intro I i hi u d hd hoff t h tk F N
    simp only [ovr] at F
    rw [Int.zero_add] at F
    have hrl : d.rs.length ≤ 63 := by
      have h1 := hd.1.length
      unfold dueD at h1
      rw [List.length_cons, List.length_map, List.length_range] at h1
      lia
    obtain ⟨a1, a2⟩ := List.forall_mem_cons.mp hoff
    obtain ⟨a3, a4⟩ := List.forall_mem_append.mp a2
    obtain ⟨a7, a8⟩ := List.forall_mem_cons.mp a4
    obtain ⟨a9, _⟩ := List.forall_mem_cons.mp a8
    refine' wpAny_mono (law_turn w mean mg mb ?hdef ns M HM hn hc i hi fa cdv base g L' _ _ _ _ d.k d.rs ((I, _) :: (lL, _) :: d.os) d.p d.q d.tc t _ B' X' T' F (news_swap N) hd.2.2 ?off ⟨Ne.symm (by with_reducible assumption), Ne.symm (by with_reducible assumption)⟩ hrl rfl rfl rfl ?hE) (fun f s₂ X => ?_) (fun _ _ e => e)
    case hdef => exact rfl
    case off => exact List.forall_mem_cons.mpr ⟨⟨Ne.symm a1, Ne.symm a7, Ne.symm a9⟩, List.forall_mem_cons.mpr ⟨⟨by with_reducible assumption, Ne.symm l93, Ne.symm l86⟩, hd.2.1⟩⟩
    case hE => exact hE
    refine law_step X rfl hd (dueD_succ ns M i) hoff ?_
    intro z hz
    simp only [List.mem_cons, List.not_mem_nil, or_false, not_or] at hz
    obtain ⟨z1, z2, z3, z4, z5, z6⟩ := hz
    simp only [if_neg z1, if_neg z2, if_neg z3, if_neg z4, if_neg z5, if_neg z6]
  case done =>
    intro u d hd h tk F N
    simp only [ovr] at F
    obtain ⟨hD, hos, hG⟩ := hd
    dsimp only [ledL, List.cons_append] at N
    k_steps
    show wpAny _ _ _ _ _ _
    refine tell_use (c_due w mean mg mb lL vL ns ‹IntsAre vL ns› hn hc) B' F X' N T' rfl (N.isList (.tail _ (.head _))) (by ktr_room) (by ktr_units) ?_
    rintro r h5 tk5 F5 N5' k5 ⟨M', n5, HM', M5, D5⟩
    obtain rfl := HM'.unique HM
    have N6 := made_news F N5' M5
    clear N5' F N
    cases D5 with
    | list hb hA =>
      (try dsimp only)
      k_steps
      show wpAny _ _ _ _ _ _
      refine kqd_eq N6 (List.mem_append_right _ (.head _)) rfl rfl hD (fun p hp => List.mem_append_right _ (.tail _ (.tail _ (List.mem_append_left _ hp)))) (List.mem_append_left _ hb) rfl rfl hA (fun p hp => List.mem_append_left _ hp) (due_ok ns _ 7) (due_ok ns _ 7) (by ktr_units) ?_
      rw [dec_true _ rfl]
      (try dsimp only)
      k_steps
      exact hQ _ _ _ _ _ _ F5 N6 (List.mem_append_right _ (.tail _ (.tail _ (List.mem_append_right _ (.head _))))) (List.mem_append_right _ (.tail _ (.tail _ (List.mem_append_right _ (.tail _ (.head _))))))
end
end
end
end
end
section
theorem law_holds : Challenge.rw_pg0127_01.Holds := hd (by
  w_on
  w_strict (k_go0; (all_goals try k_fold))
  refine' law_body _ _ _ _ ?hdef _ _ _ ?hI ?hn _ _ _ _ _ _ _ _ _ _ _ ?B ?X ?T ?pre ?F ?N ?G ?m1 ?hE ?hQ
  case hdef => exact rfl
  case B => with_reducible assumption
  case F => with_reducible assumption
  case N => with_reducible assumption
  case hI => with_reducible assumption
  case pre => with_reducible assumption
  case hn => omega
  case T => with_reducible assumption
  case m1 => exact rfl
  case G => exact ⟨by with_reducible assumption, by with_reducible assumption, .inl rfl, .inl rfl, fun _ h => nomatch h⟩
  case hE => passes_own
  case X => k_in
  case hQ =>
    intro h' tk' m' p' q' led F9 N9 h93 h86
    refine ⟨?_, GrownAt.of N9 h93, GrownAt.of N9 h86, True.intro⟩
    dsimp only
    rename (_ = #[]) => hg
    refine' goodW_bool ?F ?hg (raisesW_false ?hn) ?hp ?hos
    case F => exact F9
    case hg => exact hg
    case hos => exact rfl
    case hn => wrow_none_raised
    case hp => wrow_post
  )
end
end Mine
theorem PySem.Challenge.cw_pg0127_01_holds : PySem.Challenge.rw_pg0127_01.Holds := by
  exact Mine.law_holds
