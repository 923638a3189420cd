import PyProof.Rows.All
import Wide.All
import OpenK.AllK
import Wide.FinOn
import PySem.Challenge.RW_gm0005_01

-- HD
section
open PySem PySem.W PyProof.Rows
set_option Elab.async false
set_option maxRecDepth 100000
set_option maxHeartbeats 8000000
namespace Mine
open_top hd for PySem.Challenge.rw_gm0005_01
end Mine
end

-- Base
section
open PySem PySem.W PySem.Calls PyProof.Rows
set_option Elab.async false
set_option maxRecDepth 100000
set_option maxHeartbeats 8000000
namespace Mine
theorem off_Base : True := by w_top off; trivial

/-- a mark: the goal names the row and the written part, so that k_fill finds them -/
def Fill (_ : OpenLaw) (_ : Params → Frag) : Prop := True

abbrev PR : Program := PySem.Challenge.pw_gm0005_01

def Grow (h h' : Heap) : Prop := ∀ b o, h.get? b = some o → h'.get? b = some o
theorem Grow.refl (h : Heap) : Grow h h := fun _ _ e => e
theorem Grow.trans {a b c : Heap} (x : Grow a b) (y : Grow b c) : Grow a c := fun _ _ e => y _ _ (x _ _ e)
theorem Grow.fr {h₀ h h' : Heap} {L : Addr} {m : Str → Option Value} (g : Grow h h') (F : Fr h₀ L h m) : Fr h₀ L h' m := by
  obtain ⟨oL, es, ep, hL, r⟩ := F.ns
  exact ⟨⟨oL, es, ep, g _ _ hL, r⟩, fun b o e => g _ _ (F.keep b o e), F.above⟩
theorem Grow.news {h₀ h h' : Heap} {L : Addr} {news : List (Addr × Obj)} (g : Grow h h') (N : News h₀ L h news) : News h₀ L h' news :=
  fun p hp => ⟨g _ _ (N p hp).1, (N p hp).2⟩
theorem Grow.list {h h' : Heap} {l : Addr} {a : Array Value} (g : Grow h h') (x : h.IsList l a) : h'.IsList l a := by
  obtain ⟨o, ho, r⟩ := x
  exact ⟨o, g _ _ ho, r⟩

/-- a contract of a def that changes nothing that stands: for what it is called with (P), what it hands back (R) -/
def Ctr (w : World) (K : Frag) (p : Program) (loose : List Str) (mean : ExcName → Option Value) (mg mb : Str → Option Value) (f : Addr) (vs : List Value) (d : Nat)
    (P : Heap → Addr → Heap → Prop) (R : Heap → Heap → Value → Prop) : Prop :=
  ∀ (dp un : Nat) (gd : Option (List Code)) (cn : Str) (cs : Scope) (a : Addr) (ccd : Value) (cl : List (Str × Addr)) (outer : List Env) (A₀ : Around) (base h₀ : Heap) (L : Addr) (m : Str → Option Value) (s : Shared) (Q E : Value → Shared → Prop),
    Below A₀ base outer h₀ → Fr h₀ L s.heap m → K.In h₀ → Top p loose mean mg mb h₀ → cs.kind = .function → dp + d < recursionLimit → un + 8 * d < cLine → P h₀ L s.heap →
    (∀ v h' tk', Grow s.heap h' → R s.heap h' v → Q v { s with heap := h', toks := tk' }) →
    wpAny (model PR w) (ktrTop dp un gd cn cs L a ccd cl outer) (call (.ref f) vs) Q E s

theorem Ctr.use {w : World} {K : Frag} {p : Program} {loose : List Str} {mean : ExcName → Option Value} {mg mb : Str → Option Value} {f : Addr} {vs : List Value} {d : Nat} {P : Heap → Addr → Heap → Prop} {R : Heap → Heap → Value → Prop}
    {dp un : Nat} {gd : Option (List Code)} {cn : Str} {cs : Scope} {a : Addr} {ccd : Value} {cl : List (Str × Addr)} {outer : List Env} {A₀ : Around} {base h₀ : Heap} {L : Addr} {m : Str → Option Value} {news : List (Addr × Obj)} {s : Shared} {Q E : Value → Shared → Prop}
    (B : Below A₀ base outer h₀) (F : Fr h₀ L s.heap m) (X : K.In h₀) (N : News h₀ L s.heap news) (T : Top p loose mean mg mb h₀) (C : Ctr w K p loose mean mg mb f vs d P R) (hk : cs.kind = .function) (hd : dp + d < recursionLimit) (hu : un + 8 * d < cLine) (hP : P h₀ L s.heap)
    (ret : ∀ v h' tk', Fr h₀ L h' m → News h₀ L h' news → Grow s.heap h' → R s.heap h' v → Q v { s with heap := h', toks := tk' }) :
    wpAny (model PR w) (ktrTop dp un gd cn cs L a ccd cl outer) (call (.ref f) vs) Q E s :=
  C _ _ _ _ _ _ _ _ _ _ _ _ _ _ _ _ _ B F X T hk hd hu hP fun v h' tk' g r => ret v h' tk' (g.fr F) (g.news N) g r

theorem grow_of {H g h' h₀ : Heap} {L L' : Addr} {m' : Str → Option Value} {news news' : List (Addr × Obj)} (N : News h₀ L H news) (G : GSub H g (news.map (·.1))) (F' : Fr g L' h' m') (N' : News g L' h' news') (hs : ∀ p ∈ news, p ∈ news') : Grow H h' :=
  elt_after (InElt.start H) G N F' N' hs

section
variable {prog : Program} {w : World} {A₀ A : Around} {s : Shared} {base h₀ : Heap} {outer : List Env} {L : Addr} {m mg mb : Str → Option Value} {env : Env} {K : Frag} {p : Program} {loose : List Str} {mean : ExcName → Option Value}
  {R : Result → Shared → Prop} {name qual : Str} {params : Arguments} {body : List Stmt} {scope : Scope} {dV kV doc pm cdv ct oc : Value} {an od : Option Addr} {osl : Array (Option Value)} {f : Addr} {args : Args} {binds : List (Str × Value)}

/-- into a def: all that stands is the new ground -/
theorem enterY (B : Below A₀ base outer h₀) (F : Fr h₀ L s.heap m) (X₀ : K.In h₀) (T : Top p loose mean mg mb h₀) (hA : A.frames = some (env :: outer)) (hf : env.frame = some L) (hke : env.scope.kind = .function)
    (ho : K.lookup f = some ⟨oc, od, .func (fnOf name qual params body scope dV kV doc pm an cdv ct), osl⟩) (hcd : codeIn K cdv qual = true) (hroom : A.depth < recursionLimit)
    (hbind : BindsTo s (fnOf name qual params body scope dV kV doc pm an cdv ct) args binds) (hloc : ∀ y ∈ binds, scope.names.lookup y.1 = some .local)
    (h : ∀ L' h₁, Fr s.heap L' h₁ (fun y => binds.reverse.lookup y) → News s.heap L' h₁ [] → Below A base (env :: outer) s.heap → K.In s.heap → Top p loose mean mg mb s.heap →
      wpAny (model prog w) (A.deeper (envOf qual scope L' f cdv)) (execs body (envOf qual scope L' f cdv))
        (fun fl s' => LeaveK h₀ L m s.heap R (match fl with | .ret v => v | _ => .none) s')
        (fun e s' => wpAny (model prog w) (A.deeper (envOf qual scope L' f cdv)) (leaving (envOf qual scope L' f cdv) e) (fun _ s'' => R (.error e) s'') (fun e' s'' => R (.error e') s'') s')
        { s with heap := h₁, toks := s.toks + binds.length })
    (hco : scope.isCoroutine = false) (hgen : scope.isGenerator = false) (hk : scope.kind = .function)
    (hcell : ∀ x ∈ scope.names, x.2 ≠ .cell) : codeAny (model prog w) A (.call (.ref f) args) R s := by
  obtain ⟨FG, BG, st, lv⟩ := groundX (R := R) B F (News.nil) hA hf hke
  have X := X₀.keeps F.keep
  refine codeAny_call_def (fd := fnX name qual params body scope [] dV kV doc pm an cdv ct) (body := body) (binds := binds) hroom (X _ _ ho) rfl (T.nolimit.keeps F.keep) (codeRec_of X hcd) rfl hbind hcell hloc (fun h₁ hns hk₁ => ?_) hco hgen hk
  exact wpAny_mono (h s.heap.objs.size h₁ ⟨hns, hk₁, Nat.le_refl _⟩ News.nil BG X (T.keeps F.keep)) (fun fl s' hl => lv _ _ hl) fun _ _ y => y

theorem enterYC (B : Below A₀ base outer h₀) (F : Fr h₀ L s.heap m) (X₀ : K.In h₀) (T : Top p loose mean mg mb h₀) (hA : A.frames = some (env :: outer)) (hf : env.frame = some L) (hke : env.scope.kind = .function)
    (ho : K.lookup f = some ⟨oc, od, .func (fnOf name qual params body scope dV kV doc pm an cdv ct), osl⟩) (hcd : codeIn K cdv qual = true) (hroom : A.depth < recursionLimit)
    (hbind : BindsTo s (fnOf name qual params body scope dV kV doc pm an cdv ct) args binds) (hkind : (binds.all fun y => scope.names.lookup y.1 == some .local || scope.names.lookup y.1 == some .cell) = true)
    (hnd : ((cellsFrom 0 scope.names []).map (·.1)).Nodup)
    (h : ∀ L' h₁ tk cells, Fr s.heap L' h₁ (bindL (envOfC qual scope L' f cdv).kindOf binds fun _ => none) → News s.heap L' h₁ cells →
      CellsAre (bindC (envOfC qual scope L' f cdv).kindOf binds fun _ => none) (cellsFrom (L' + 1) scope.names []) cells → Below A base (env :: outer) s.heap → K.In s.heap → Top p loose mean mg mb s.heap →
      wpAny (model prog w) (A.deeper (envOfC qual scope L' f cdv)) (execs body (envOfC qual scope L' f cdv))
        (fun fl s' => LeaveK h₀ L m s.heap R (match fl with | .ret v => v | _ => .none) s')
        (fun e s' => wpAny (model prog w) (A.deeper (envOfC qual scope L' f cdv)) (leaving (envOfC qual scope L' f cdv) e) (fun _ s'' => R (.error e) s'') (fun e' s'' => R (.error e') s'') s')
        { s with heap := h₁, toks := tk })
    (hco : scope.isCoroutine = false) (hgen : scope.isGenerator = false) (hk : scope.kind = .function) : codeAny (model prog w) A (.call (.ref f) args) R s := by
  obtain ⟨FG, BG, st, lv⟩ := groundX (R := R) B F (News.nil) hA hf hke
  have X := X₀.keeps F.keep
  refine codeAny_call_function hroom (X _ _ ho) rfl hco hgen rfl (codeRec_of X hcd) (hbind _ _ _ _ ?_)
  refine wpAny_newFunctionEnv_cells hk (kindsX hkind _) fun env' he s' x => ?_
  subst he
  refine ⟨(T.nolimit.keeps F.keep).keeps x.toInCall.keep, codeAny_func ?_⟩
  obtain ⟨h₁, tk, rfl, _⟩ := x.done
  have hk₁ := x.toInCall.keep
  obtain ⟨cells, NC, Y⟩ := Cl.news (h₀ := s.heap) (Nat.le_refl _) fun n c hm => ⟨x.cell n c (lookup_of_mem_nodup (cellsFrom_names scope.names 0 (s.heap.objs.size + 1) [] [] rfl ▸ hnd) hm), x.above n c hm⟩
  exact wpAny_mono (h s.heap.objs.size h₁ tk cells ⟨x.toInCall.ns, hk₁, Nat.le_refl _⟩ NC Y BG X (T.keeps F.keep)) (fun fl s' hl => lv _ _ hl) fun _ _ y => y
end
end Mine
end

-- LV
section
open PySem PySem.W PySem.Calls PyProof.Rows
set_option Elab.async false
set_option maxRecDepth 100000
set_option maxHeartbeats 2000000
namespace Mine
theorem off_LV : True := by w_top off; trivial
/-- a mark at which a walk halts -/
def Stop (p : Prop) : Prop := p
theorem stop {p : Prop} (h : Stop p) : p := h

theorem Fr.to {h₀ h : Heap} {L : Addr} {m m' : Str → Option Value} (F : Fr h₀ L h m) (e : ∀ y, m y = m' y) : Fr h₀ L h m' := by
  have : m = m' := funext e
  exact this ▸ F
theorem rng_ok : ∀ {M : Nat}, M ≤ 4 → Builtin.Range.small 0 (M : Int) 1 = true ∧ Builtin.Range.rangeSize 0 (M : Int) 1 = (M : Int)
  | 0, _ => by decide
  | 1, _ => by decide
  | 2, _ => by decide
  | 3, _ => by decide
  | 4, _ => by decide
theorem ints_get {vs : List Value} {ns : List Int} (i : IntsAre vs ns) : ∀ {j : Nat} {v : Value}, vs[j]? = some v → ∃ n t, v = .int n t ∧ ns[j]? = some n := by
  induction i with
  | nil => intro j v h; simp at h
  | cons n t _ ih =>
    intro j v h
    cases j with
    | zero => simp at h; exact ⟨n, t, h.symm, rfl⟩
    | succ j => simpa using ih (by simpa using h)

section
variable {prog : Program} {w : World} {A : Around} {E : Value → Shared → Prop} {s : Shared} {Q : Value → Shared → Prop}
theorem sub_at {l : Addr} {vs : List Value} {ns : List Int} {k : Int} {tk : Tok} {value slice : PySem.Expr} {ops : List Value} (hl : s.heap.IsList l vs.toArray) (hi : IntsAre vs ns) (hz : ns.length ≤ 1000) (h0 : 0 ≤ k) (h1 : k < ns.length) (h : ∀ t, Q (.int (ns.getD k.toNat 0) t) s)
    (hs : subscripted slice false (.ref l) (.int k tk) = operate ops (getItem (.ref l) (.int k tk))) : wpAny (model prog w) A (subscriptTail value slice (.ref l) (.int k tk)) Q E s := by
  have hlen := hi.length
  have hk : k.toNat < ns.length := by omega
  have hx : vs[k.toNat]? = some (vs[k.toNat]'(by omega)) := List.getElem?_eq_getElem _
  obtain ⟨n, t, e1, e2⟩ := ints_get hi hx
  rw [e1] at hx
  have e3 : ns.getD k.toNat 0 = n := by rw [List.getD_eq_getElem?_getD, e2]; rfl
  exact tail_any hl.typeIs slot_list_getitem.lookup (wpAny_getItem_list hl h0 (by omega) (by simpa using hx) (e3 ▸ h t)) hs
end

section
variable {prog : Program} {w : World} {A : Around} {E : Value → Shared → Prop} {env : Env} {s : Shared} {h₀ : Heap} {m : Str → Option Value} {led : List (Addr × Obj)}

/-- what a turn must bring, the ledger may change -/
def TurnV (h₀ : Heap) (L I : Addr) (own : List (Addr × Obj)) (Jn : (Str → Option Value) → List (Addr × Obj) → Prop) (s₁ : Shared) (f : Flow) (s₂ : Shared) : Prop :=
  f = .next ∧ ∃ h' tk m₂ news₂, s₂ = { s₁ with heap := h', toks := tk } ∧ Fr h₀ L h' m₂ ∧ News h₀ L h' (own ++ news₂) ∧ (∀ p ∈ news₂, (p.1 : Nat) ≠ (I : Nat)) ∧ Jn m₂ news₂

theorem For_rngV {x : Str} {px pos : Pos} {iter : PySem.Expr} {body : List Stmt} {Q : Flow → Shared → Prop} {lo hi : Int} {n : Nat} (J : Nat → (Str → Option Value) → List (Addr × Obj) → Prop) (hh : A.handled = none)
    (F : Fr h₀ env.locals s.heap m) (N : News h₀ env.locals s.heap led) (hx : env.kindOf x = some .local) (hp : (env.scope.kind == .class || (env.scope.kind == .module && env.locals != env.globals)) = false)
    (hit : wpAny (model prog w) A (eval iter env) (fun xv s₁ => ∃ rA H1 tk t1 t2 t3, xv = .ref rA ∧ s₁ = { s with heap := H1, toks := tk } ∧ (∀ b o, s.heap.get? b = some o → H1.get? b = some o) ∧ IsRange H1 rA lo hi 1 t1 t2 t3) E s)
    (hsmall : Builtin.Range.small lo hi 1 = true) (hrs : Builtin.Range.rangeSize lo hi 1 = (n : Int)) (hJ0 : J 0 m led)
    (step : ∀ (i : Nat) (t : Tok) m₁ news₁ (s₁ : Shared) own (I : Addr) (oI : Obj), (∃ h₁ tk₁, s₁ = { s with heap := h₁, toks := tk₁ }) → i < n → J i m₁ news₁ → (∀ p ∈ news₁, (p.1 : Nat) ≠ (I : Nat)) → (I, oI) ∈ own → 
      Fr h₀ env.locals s₁.heap (fun y => if y = x then some (.int (lo + i) t) else m₁ y) → News h₀ env.locals s₁.heap (own ++ news₁) →
      wpAny (model prog w) A (execs body env) (TurnV h₀ env.locals I own (J (i + 1)) s₁) E s₁)
    (done : ∀ h' tk m' news', Fr h₀ env.locals h' m' → News h₀ env.locals h' news' → J n m' news' → Q .next { s with heap := h', toks := tk })
    (hs : ∀ x, foldedSetIterable iter env x = pure x := by intro _; rfl)
    (hE : PassesOwn (model prog w) A env E := by passes_own) :
    wpAny (model prog w) A (exec (.For (.Name x px) iter body [] pos) env) Q E s := by
  refine For_invV h₀ hx hp (wpAny_mono hit (fun xv s₁ h1 => ?_) fun _ _ e => e) hs hE
  obtain ⟨rA, H1, tk, t1, t2, t3, rfl, rfl, g1, hr⟩ := h1
  refine wpAny_pyIter_range hr hsmall ?_
  rw [hrs]
  dsimp only
  have g2 : Grow H1 (H1.push { cls := .type "range_iterator", data := .fields #[rawInt lo, rawInt (n : Int), rawInt 1] }) := fun b o e => Heap.get?_push_of_some _ e
  have g : Grow s.heap _ := Grow.trans g1 g2
  have hnew : ∀ b o, s.heap.get? b = some o → (b : Nat) ≠ (H1.objs.size : Nat) := fun b o e q => by
    have := Heap.lt_size (g1 _ _ e)
    rw [q] at this
    exact Nat.lt_irrefl _ this
  have hLn : (env.locals : Nat) ≠ (H1.objs.size : Nat) := by obtain ⟨o, _, _, e, _⟩ := F.ns; exact hnew _ _ e
  have hledn : ∀ p ∈ led, (p.1 : Nat) ≠ (H1.objs.size : Nat) := fun p hp => hnew _ _ (N p hp).1
  have h0I : h₀.get? H1.objs.size = none := by
    cases q : h₀.get? H1.objs.size with
    | none => rfl
    | some o => exact absurd rfl (hnew _ _ (F.keep _ _ q))
  refine ⟨H1.objs.size, [H1.objs.size], [H1.objs.size], n, _, _, m, led, J, rfl, Walks.range hh H1.objs.size lo 1 n, ?_, ?_, ?_, ?_, g.fr F, g.news N, hJ0, ?_, fun h' tk m' news' F' N' _ j => done h' tk m' news' F' N' j⟩
  · rw [List.mem_singleton]; exact hLn
  · intro b hb
    rw [List.mem_singleton.mp hb]
    exact h0I
  · intro p hp; rw [List.mem_singleton]; exact hledn p hp
  · show IsRangeIter _ _ _ _ _
    simpa using Heap.get?_push_size _ rfl
  · intro i v m₁ news₁ s₁ own hs1 hi hP hJ hnw hown hown2 hfp hst F1 N1
    obtain ⟨t, rfl⟩ := hP
    have ev : lo + (i : Int) * 1 = lo + (i : Int) := by omega
    rw [ev] at F1
    obtain ⟨h₁, tk₁, rfl⟩ := hs1
    have hI := hfp H1.objs.size List.mem_cons_self h0I _ hst
    refine wpAny_mono (step i t m₁ news₁ _ own H1.objs.size _ ⟨_, _, rfl⟩ hi hJ (fun p hp q => hnw p hp (by rw [List.mem_singleton]; exact q)) hI F1 N1) (fun fl s' h' => ?_) fun _ _ e => e
    obtain ⟨rfl, h3, tk3, m3, news3, rfl, F3, N3, a3, j3⟩ := h'
    exact ⟨rfl, h3, tk3, m3, news3, rfl, F3, N3, fun p hp q => a3 p hp (by rw [List.mem_singleton] at q; exact q), j3⟩
end
end Mine
end

-- AddC
section
open PySem PySem.W PySem.Calls PyProof.Rows
set_option Elab.async false
set_option maxRecDepth 100000
set_option maxHeartbeats 8000000
namespace Mine
theorem off_AddC : True := by w_top off; trivial
local macro_rules | `(tactic| walk_at "MINE enterG") => `(tactic| (refine' code_defG ?k1 ?k2 ?k3 ?k4 ?k5 ?kA ?kF ?kK ?k6 ?k7 ?k8 ?k9 ?kB ?_ ?c2 ?c3 ?c4 ?c5; (case kA => exact rfl); (case kF => exact rfl); (case kK => assumption); (case k1 => k_asm); (case k2 => k_asm); (case k3 => k_asm); (case k4 => k_asm); (case k5 => k_asm); (case k6 => k_is); (case k7 => k_is); (case k8 => ktr_room); (case k9 => exact BindsTo.of_eq rfl); (case c5 => decide); (case kB => exact locs rfl); (case c2 => exact rfl); (case c3 => exact rfl); (case c4 => exact rfl); k_whole; intro g' L' h' FG' F' N' B' X' T' G'; (try dsimp only); (try k_lift B'); (try k_fold)))
local macro_rules | `(tactic| k_room) => `(tactic| ktr_room)
local macro_rules | `(tactic| k_units) => `(tactic| ktr_units)
abbrev tupS (c n t : Int) (k : Int) (a b c' d : Tok) (dA : Addr) : Obj := { cls := Value.type "tuple", data := Data.seq #[Value.int c a, Value.int n b, Value.int t c', Value.int k d, Value.ref dA] }
def EmpD (w : World) (d : Addr) (o : Obj) : Prop := (d == sysModules) = false ∧ Obj.IsDictOf (PySem.strKind PR w) o [] ∧ Obj.IsDictOf (PySem.intKind PR w) o [] ∧ PyProof.V.FlatPairs PyData.str [] [] ∧ PyProof.V.FlatPairs PyData.int [] []

theorem fresh_of {H g h' : Heap} {L' : Addr} {adr : List Addr} {news' : List (Addr × Obj)} {r : Addr} {o : Obj} (G : GSub H g adr) (N' : News g L' h' news') (hp : (r, o) ∈ news') (hn : r ∉ adr) : H.get? r = none := by
  cases q : H.get? r with
  | none => rfl
  | some o' => have := (N' _ hp).2.2; rw [G r o' q hn] at this; cases this
theorem add_use (w : World) (p : Program) (loose : List Str) (mean : ExcName → Option Value) (mg mb : Str → Option Value) (wh dA sr dB : Addr) (oD oE : Obj) (c n t k c1 n1 t1 k1 : Int) (u1 u2 u3 u4 u5 u6 u7 u8 : Tok) (hD : EmpD w dA oD) (hE : EmpD w dB oE)

    {dp un : Nat} {gd : Option (List Code)} {cn : Str} {cs : Scope} {ca : Addr} {ccd : Value} {cl : List (Str × Addr)} {outer : List Env} {A₀ : Around} {base h₀ : Heap} {L : Addr} {m : Str → Option Value} {s : Shared} {Q E : Value → Shared → Prop}
    (B : Below A₀ base outer h₀) (F : Fr h₀ L s.heap m) (X : (Mine.hd.heap_39 w.params).In h₀) (T : Top p loose mean mg mb h₀) (hk : cs.kind = .function) (hd : dp + 4 < recursionLimit) (hu : un + 8 * 4 < cLine)
    (N : News h₀ L s.heap [(sr, tupS c1 n1 t1 k1 u5 u6 u7 u8 dB), (dB, oE), (wh, tupS c n t k u1 u2 u3 u4 dA), (dA, oD)])
    (hret : ∀ (r dC : Addr) (oC : Obj) (n' t' k' : Int) (v1 v2 v3 v4 : Tok) h' tk', Grow s.heap h' → Fr h₀ L h' m → News h₀ L h' [(r, tupS (c1 + c) n' t' k' v1 v2 v3 v4 dC), (dC, oC)] → EmpD w dC oC → s.heap.get? r = none → s.heap.get? dC = none → Q (.ref r) { s with heap := h', toks := tk' }) :
    wpAny (model PR w) (ktrTop dp un gd cn cs L ca ccd cl outer) (call (.ref 67) [.ref wh, .ref sr]) Q E s := by
  have fill : Fill PySem.Challenge.rw_gm0005_01 Mine.hd.heap_39 := by k_fill; trivial
  clear fill
  obtain ⟨g, gens, drawn, toks, os⟩ := s
  obtain ⟨e0, e1, e2, e3, e4⟩ := hD
  obtain ⟨e7, e5, e6, _, _⟩ := hE
  dsimp only [tupS] at *
  refine wpAny_call ?_
  k_dflt walk_at "MINE enterG"
  k_steps
  (rename GSub _ _ _ => G9)
  (with_reducible rename Fr h₀ _ _ _ => F9)
  (with_reducible rename News h₀ _ _ _ => N9)
  refine hret _ _ _ _ _ _ _ _ _ _ _ _ (grow_of N G9 (by assumption) (by assumption) (by k_sub)) F9 (fun p hp => N9 p (List.mem_of_mem_take (i := 2) hp)) ⟨?_, ?_, ?_, e3, e4⟩ (fresh_of G9 (by assumption) List.mem_cons_self ?_) (fresh_of G9 (by assumption) (List.mem_cons_of_mem _ List.mem_cons_self) ?_)
  · assumption
  · assumption
  · assumption
  · simp only [List.map_cons, List.map_nil, List.mem_cons, List.not_mem_nil, or_false]
    (with_reducible rename (_ < _ ∧ _) => l9)
    obtain ⟨_, a1, a2, a3, a4⟩ := l9
    rintro (h | h | h | h)
    · exact Nat.ne_of_gt a1 h
    · exact Nat.ne_of_gt a2 h
    · exact Nat.ne_of_gt a3 h
    · exact Nat.ne_of_gt a4 h
  · simp only [List.map_cons, List.map_nil, List.mem_cons, List.not_mem_nil, or_false]
    (with_reducible rename (sr < _ ∧ _) => l9)
    obtain ⟨a1, a2, a3, a4⟩ := l9
    rintro (h | h | h | h)
    · exact Nat.ne_of_gt a1 h
    · exact Nat.ne_of_gt a2 h
    · exact Nat.ne_of_gt a3 h
    · exact Nat.ne_of_gt a4 h
end Mine
end

-- SumG
section
open PySem PySem.W PySem.Calls PyProof.Rows
set_option Elab.async false
set_option maxRecDepth 100000
set_option maxHeartbeats 8000000
namespace Mine
theorem off_SumG : True := by w_top off; trivial

local macro_rules | `(tactic| walk_at "MINE enter") => `(tactic| (refine' enterY ?k1 ?k2 ?k3 ?k5 ?kA ?kF ?kK ?k6 ?k7 ?k8 ?k9 ?kB ?_ ?c2 ?c3 ?c4 ?c5; (case kA => exact rfl); (case kF => exact rfl); (case kK => assumption); (case k1 => k_asm); (case k2 => k_asm); (case k3 => k_asm); (case k5 => k_asm); (case k6 => k_is); (case k7 => k_is); (case k8 => ktr_room); (case k9 => exact BindsTo.of_eq rfl); (case c5 => decide); (case kB => exact locs rfl); (case c2 => exact rfl); (case c3 => exact rfl); (case c4 => exact rfl); k_whole; intro L' h' F' N' B' X' T'; (try dsimp only); (try k_lift B')))
local macro_rules | `(tactic| k_room) => `(tactic| ktr_room)
local macro_rules | `(tactic| k_units) => `(tactic| ktr_units)
local macro_rules | `(tactic| walk_at "exec For Name Call cons nil") => `(tactic| (k_here; (with_reducible show wpAny _ _ (exec (PySem.Stmt.For _ _ _ _ _) _) _ _ _); refine stop ?_))

local macro_rules | `(tactic| walk_at "call ref") => `(tactic| (k_here; (with_reducible show wpAny _ _ (call (Value.ref 67) _) _ _ _); refine stop ?_))
local macro_rules | `(tactic| walk_at "subscriptTail Name Name ref int") => `(tactic| (k_here; k_dflt (refine' sub_at ?l ?i ?z ?a ?b ?_ ?s; (case l => is_list); (case i => assumption); (case z => omega); (case a => omega); (case b => omega); (case s => with_unfolding_all rfl); k_whole); intro t'))
def dot : List Int → List Int → Int
  | x :: xs, y :: ys => x * y + dot xs ys
  | _, _ => 0

theorem dot_take {xs ys : List Int} (hl : ys.length = xs.length) : ∀ {i : Nat}, i < xs.length → dot (xs.take (i + 1)) (ys.take (i + 1)) = xs.getD i 0 * ys.getD i 0 + dot (xs.take i) (ys.take i) := by
  induction xs generalizing ys with
  | nil => intro i h; simp at h
  | cons x xs ih =>
    cases ys with
    | nil => simp at hl
    | cons y ys =>
      intro i h
      cases i with
      | zero => simp [dot]
      | succ i =>
        have := ih (ys := ys) (by simpa using hl) (i := i) (by simpa using h)
        simp only [List.take_succ_cons, dot, List.getD_cons_succ] at this ⊢
        omega
def mS (l1 l2 wh : Addr) : Str → Option Value := fun y => if y = "whole" then some (.ref wh) else if y = "other" then some (.ref l2) else if y = "one" then some (.ref l1) else none
def JS (w : World) (l1 l2 : Addr) (xs ys : List Int) (i : Nat) (m : Str → Option Value) (news : List (Addr × Obj)) : Prop :=
  ∃ (wh dA : Addr) (n t k : Int) (a b c d : Tok) (oD : Obj), (∀ y : Str, y ≠ "k" → m y = mS l1 l2 wh y) ∧ news = [(wh, tupS (dot (xs.take i) (ys.take i)) n t k a b c d dA), (dA, oD)] ∧ EmpD w dA oD
theorem lookup_two {y a b : Str} {u v : Value} : List.lookup y [(a, u), (b, v)] = if y = a then some u else if y = b then some v else none := by
  simp only [List.lookup_cons, List.lookup_nil]
  by_cases h : y = a
  · subst h; simp
  · have h' : (y == a) = false := by simpa using h
    rw [h', if_neg h]
    by_cases h2 : y = b
    · subst h2; simp
    · have h2' : (y == b) = false := by simpa using h2
      rw [h2', if_neg h2]
theorem newsApp {h₀ h : Heap} {L : Addr} {a b : List (Addr × Obj)} (x : News h₀ L h a) (y : News h₀ L h b) : News h₀ L h (a ++ b) := fun q hq => (List.mem_append.mp hq).elim (x q) (y q)
theorem law_sum_gen (w : World) (p : Program) (loose : List Str) (mean : ExcName → Option Value) (mg mb : Str → Option Value) (l1 l2 : Addr) (vs1 vs2 : List Value) (xs ys : List Int)
    (i1 : IntsAre vs1 xs) (i2 : IntsAre vs2 ys) (hlen : ys.length = xs.length) (h4 : xs.length ≤ 4) (b1 : ∀ x ∈ xs, -100 ≤ x ∧ x ≤ 100) (b2 : ∀ x ∈ ys, -100 ≤ x ∧ x ≤ 100) :
    Ctr w (Mine.hd.heap_39 w.params) p loose mean mg mb 86 [.ref l1, .ref l2] 5 (fun _ _ h => h.IsList l1 vs1.toArray ∧ h.IsList l2 vs2.toArray)
      (fun _ _ v => ∃ t, v = .int (dot xs ys) t) := by
  have fill : Fill PySem.Challenge.rw_gm0005_01 Mine.hd.heap_39 := by k_fill; trivial
  clear fill
  unfold Ctr
  intro dp un gd cn cs a ccd cl outer A₀ base h₀ L m s Q E B F X T hk hd hu hP hret
  obtain ⟨g, gens, drawn, toks, os⟩ := s
  dsimp only at *
  obtain ⟨hl1, hl2⟩ := hP
  refine wpAny_call ?_
  k_dflt walk_at "MINE enter"
  k_steps
  unfold Stop
  with_reducible rename Fr _ _ _ _ => F1
  with_reducible rename News _ _ _ _ => N1
  with_reducible rename Obj.IsDictOf (PySem.strKind PR w) _ _ => d1
  with_reducible rename Obj.IsDictOf (PySem.intKind PR w) _ _ => d2
  with_reducible rename PyProof.V.FlatPairs PyData.str _ _ => f1
  with_reducible rename PyProof.V.FlatPairs PyData.int _ _ => f2
  with_reducible rename (_ == sysModules) = false => lo
  refine For_rngV (lo := 0) (n := xs.length) (hi := (xs.length : Int)) (JS w l1 l2 xs ys) rfl F1 N1 rfl rfl ?_ (rng_ok h4).1 (rng_ok h4).2 ?_ ?_ ?_
  · k_steps
    rename (∀ b o, _ → _) => gG
    exact gG _ _ (by assumption)
  · refine ⟨_, _, 0, 0, 0, _, _, _, _, _, fun y _ => ?_, rfl, ⟨lo, d1, d2, f1, f2⟩⟩
    show (if y = "whole" then _ else List.lookup y [((Str.ofString "other" : Str), Value.ref l2), ((Str.ofString "one" : Str), Value.ref l1)]) = _
    rw [lookup_two]
    exact rfl
  · intro i t m₁ news₁ s₁ own I oI hs1 hi hJ hnw hI F2 N2
    obtain ⟨h₁, tk₁, rfl⟩ := hs1
    obtain ⟨wh, dA, n, t5, k, ta, tb, tc, td, oD, hm, rfl, ⟨e0, e1, e2, e3, e4⟩⟩ := hJ
    have F3 := Fr.to (m' := fun y => if y = "k" then some (.int (0 + (i : Int)) t) else mS l1 l2 wh y) F2 (fun y => by
      by_cases hy : y = "k"
      · subst hy; simp
      · rw [if_neg hy, if_neg hy, hm y hy])
    have N3 : News g _ h₁ ((wh, tupS (dot (xs.take i) (ys.take i)) n t5 k ta tb tc td dA) :: (dA, oD) :: own) := fun q hq => N2 q (by simp only [List.mem_cons, List.mem_append, List.not_mem_nil, or_false] at hq ⊢; rcases hq with h | h | h; exact .inr (.inl h); exact .inr (.inr h); exact .inl h)
    clear F2 N2 hm F1 N1 d1 d2 f1 f2 lo
    dsimp only [mS, tupS, envOf] at F3 N3
    have ei : (0 + (i : Int)).toNat = i := by omega
    have bx : -100 ≤ xs.getD (0 + (i : Int)).toNat 0 ∧ xs.getD (0 + (i : Int)).toNat 0 ≤ 100 := by rw [ei]; exact b1 _ (kso_getD hi)
    have by' : -100 ≤ ys.getD (0 + (i : Int)).toNat 0 ∧ ys.getD (0 + (i : Int)).toNat 0 ≤ 100 := by rw [ei]; exact b2 _ (kso_getD (by omega))
    k_steps
    unfold Stop
    with_reducible rename PyProof.V.FlatPairs PyData.str _ _ => f1
    with_reducible rename PyProof.V.FlatPairs PyData.int _ _ => f2
    with_reducible rename (_ == sysModules) = false => lo
    with_reducible rename Obj.IsDictOf (PySem.strKind PR w) _ _ => d1
    with_reducible rename Obj.IsDictOf (PySem.intKind PR w) _ _ => d2
    with_reducible rename Fr _ _ _ _ => F4
    with_reducible rename News _ _ _ _ => N4
    with_reducible rename Below _ _ _ _ => B4
    with_reducible rename Top _ _ _ _ _ _ => T4
    with_reducible rename (Frag.In _ _) => X4
    refine add_use w p loose mean mg mb _ _ _ _ _ _ _ _ _ _ _ _ _ _ _ _ _ _ _ _ _ _ ⟨e0, e1, e2, e3, e4⟩ ⟨lo, d1, d2, f1, f2⟩ B4 F4 X4 T4 ?_ ?_ ?_ (fun q hq => N4 q (List.mem_of_mem_take (i := 4) hq)) ?_
    · exact rfl
    · ktr_room
    · ktr_units
    intro r dC oC n' t' k' v1 v2 v3 v4 h5 tk5 g5 F5 N5 eC f5 f6
    have hIo := (N4 (I, oI) (by simp only [List.mem_cons]; exact .inr (.inr (.inr (.inr hI))))).1
    have n1 : r ≠ I := fun e => by rw [e] at f5; rw [hIo] at f5; cases f5
    have n2 : dC ≠ I := fun e => by rw [e] at f6; rw [hIo] at f6; cases f6
    have N6 := newsApp N5 (g5.news N4)
    dsimp only [tupS, List.cons_append, List.nil_append] at N6
    clear N5 N4 F4 hIo f5 f6
    k_steps
    with_reducible rename Fr _ _ _ _ => F6
    with_reducible rename News _ _ _ _ => N7
    refine ⟨rfl, _, _, _, [(r, tupS (xs.getD (0 + (i : Int)).toNat 0 * ys.getD (0 + (i : Int)).toNat 0 + dot (xs.take i) (ys.take i)) n' t' k' v1 v2 v3 v4 dC), (dC, oC)], rfl, F6, fun q hq => N7 q ?_, fun q hq => ?_, r, dC, n', t', k', v1, v2, v3, v4, oC, fun y hy => ?_, ?_, eC⟩
    · rcases List.mem_append.mp hq with h | h
      · simp only [List.mem_cons]; exact .inr (.inr (.inr (.inr (.inr (.inr h)))))
      · simp only [List.mem_cons, List.not_mem_nil, or_false] at h ⊢
        rcases h with h | h
        · exact .inl h
        · exact .inr (.inl h)
    · simp only [List.mem_cons, List.not_mem_nil, or_false] at hq
      rcases hq with rfl | rfl
      · exact n1
      · exact n2
    · dsimp only [mS]
      by_cases hw : y = "whole"
      · rw [if_pos hw, if_pos hw]
      · rw [if_neg hw, if_neg hw, if_neg hy, if_neg hw]
    · rw [dot_take hlen hi, ei]
  · intro h' tk' m' news' F2 N2 hJ
    obtain ⟨wh, dA, n, t5, k, ta, tb, tc, td, oD, hm, rfl, _⟩ := hJ
    have F3 := Fr.to (m' := fun y => if y = "k" then m' "k" else mS l1 l2 wh y) F2 (fun y => by
      by_cases hy : y = "k"
      · subst hy; simp
      · rw [if_neg hy, hm y hy])
    clear F2 hm
    rw [List.take_length, ← hlen, List.take_length] at N2
    dsimp only [mS, tupS, envOf] at F3 N2
    dsimp only
    k_steps
    exact hret _ _ _ F3.keep ⟨_, rfl⟩
end Mine
end

-- Cmp
section
open PySem PySem.W PySem.Calls PyProof.Rows
set_option Elab.async false
set_option maxRecDepth 100000
set_option maxHeartbeats 8000000
namespace Mine
theorem off_Cmp : True := by w_top off; trivial

local macro_rules | `(tactic| walk_at "MINE enterG") => `(tactic| (refine' code_defG ?k1 ?k2 ?k3 ?k4 ?k5 ?kA ?kF ?kK ?k6 ?k7 ?k8 ?k9 ?kB ?_ ?c2 ?c3 ?c4 ?c5; (case kA => exact rfl); (case kF => exact rfl); (case kK => assumption); (case k1 => k_asm); (case k2 => k_asm); (case k3 => k_asm); (case k4 => k_asm); (case k5 => k_asm); (case k6 => k_is); (case k7 => k_is); (case k8 => ktr_room); (case k9 => exact BindsTo.of_eq rfl); (case c5 => decide); (case kB => exact locs rfl); (case c2 => exact rfl); (case c3 => exact rfl); (case c4 => exact rfl); k_whole; intro g' L' h' FG' F' N' B' X' T' G'; (try dsimp only); (try k_lift B'); (try k_fold)))
local macro_rules | `(tactic| k_room) => `(tactic| ktr_room)
local macro_rules | `(tactic| k_units) => `(tactic| ktr_units)

local macro_rules | `(tactic| walk_at "exec For Tuple Attribute cons nil") => `(tactic| (k_here; (rename Fr _ _ _ _ => lF'); (with_unfolding_all refine' For_turns lF' ?_; k_whole)))

def cmpI (x y : Int) : Int := if x < y then -1 else if x > y then 1 else 0

abbrev tcObjs (w : World) (o d l t : Addr) (k1 k2 k3 : Tok) (j : Int) : List (Addr × Obj) :=
  [(o, instObj 56 d), (d, dictOf [⟨PyData.keyHash w.params "comp_select_list", .str "comp_select_list" k1, .ref l⟩] 1), (l, listOf #[.ref t] 0), (t, { cls := .type "tuple", data := .seq #[.int j k2, .int 1 k3] })]
abbrev twoObj (x y : Int) (k1 k2 : Tok) : Obj := { cls := .type "tuple", data := .seq #[.int x k1, .int y k2] }


theorem compare_0 (w : World) (p : Program) (loose : List Str) (mean : ExcName → Option Value) (mg mb : Str → Option Value) (o d l t a b : Addr) (k1 k2 k3 t1 t2 t3 t4 : Tok) (x0 x1 y0 y1 : Int) :
    Ctr w (Mine.hd.heap_39 w.params) p loose mean mg mb 53 [.ref o, .ref a, .ref b] 2
      (fun h₀ L h => News h₀ L h ((a, twoObj x0 x1 t1 t2) :: (b, twoObj y0 y1 t3 t4) :: tcObjs w o d l t k1 k2 k3 0))
      (fun _ _ v => ∃ t, v = .int (cmpI x0 y0) t) := by
  have fill : Fill PySem.Challenge.rw_gm0005_01 Mine.hd.heap_39 := by k_fill; trivial
  clear fill
  unfold Ctr
  intro dp un gd cn cs ca ccd cl outer A₀ base h₀ L m s Q E B F X T hk hd hu N hret
  obtain ⟨g, gens, drawn, toks, os⟩ := s
  dsimp only [tcObjs, twoObj] at *
  refine wpAny_call ?_
  k_dflt walk_at "MINE enterG"
  k_steps
  all_goals (
    refine hret _ _ _ ?_ ⟨_, congrArg (Value.int · _) ?_⟩
    · rename GSub _ _ _ => G9
      exact grow_of N G9 (by assumption) (by assumption) (by first | exact List.forall_mem_nil _ | k_sub)
    · unfold cmpI
      (try simp only [decide_eq_true_eq, decide_eq_false_iff_not] at *)
      (repeat' split) <;> first | rfl | omega)

theorem compare_1 (w : World) (p : Program) (loose : List Str) (mean : ExcName → Option Value) (mg mb : Str → Option Value) (o d l t a b : Addr) (k1 k2 k3 t1 t2 t3 t4 : Tok) (x0 x1 y0 y1 : Int) :
    Ctr w (Mine.hd.heap_39 w.params) p loose mean mg mb 53 [.ref o, .ref a, .ref b] 2
      (fun h₀ L h => News h₀ L h ((a, twoObj x0 x1 t1 t2) :: (b, twoObj y0 y1 t3 t4) :: tcObjs w o d l t k1 k2 k3 1))
      (fun _ _ v => ∃ t, v = .int (cmpI x1 y1) t) := by
  have fill : Fill PySem.Challenge.rw_gm0005_01 Mine.hd.heap_39 := by k_fill; trivial
  clear fill
  unfold Ctr
  intro dp un gd cn cs ca ccd cl outer A₀ base h₀ L m s Q E B F X T hk hd hu N hret
  obtain ⟨g, gens, drawn, toks, os⟩ := s
  dsimp only [tcObjs, twoObj] at *
  refine wpAny_call ?_
  k_dflt walk_at "MINE enterG"
  k_steps
  all_goals (
    refine hret _ _ _ ?_ ⟨_, congrArg (Value.int · _) ?_⟩
    · rename GSub _ _ _ => G9
      exact grow_of N G9 (by assumption) (by assumption) (by first | exact List.forall_mem_nil _ | k_sub)
    · unfold cmpI
      (try simp only [decide_eq_true_eq, decide_eq_false_iff_not] at *)
      (repeat' split) <;> first | rfl | omega)
end Mine
end

-- Zip
section
open PySem PySem.W PySem.Calls PyProof.Rows
open Sem (wp)
set_option Elab.async false
set_option maxRecDepth 100000
set_option maxHeartbeats 8000000
namespace Mine
theorem off_Zip : True := by w_top off; trivial

abbrev zipObj (f0 f1 : Value) (TI TO : Addr) : Obj := { cls := .type "zip", dict := none, data := .fields #[f0, f1, .bool false, .ref TI, .ref TO], slots := #[] }
abbrev pairObj (x y : Value) : Obj := { cls := .type "tuple", data := .seq #[x, y] }

section
variable {prog : Program} {w : World} {A : Around} {E : Value → Shared → Prop} {s : Shared}

theorem any_loadIfAlive {M : Model} {a : Addr} {Q : Option Obj → Shared → Prop} (h : Q (s.heap.get? a) s) : wpAny M A (loadIfAlive a) Q E s :=
  fun _ _ _ => h

/-- what is asked of a zip whose last tuple still stands: it is not free -/
theorem zip_taken {z TI TO T : Addr} {b1 : Bool} {o : Obj} {Q : Bool → Shared → Prop} (hz : s.heap.get? z = some (zipObj (rawInt T) (.bool b1) TI TO)) (hT : s.heap.get? T = some o)
    (hQ : ∀ h', h'.get? z = some (zipObj (rawInt T) (.bool true) TI TO) → Heap.SameBut z s.heap h' → Q false { s with heap := h' }) :
    wpAny (model prog w) A (Builtin.SmallTypes.ownedTupleIsFree (.ref z)) Q E s := by
  unfold Builtin.SmallTypes.ownedTupleIsFree
  refine wpAny_bind (wpAny_field hz rfl (x := rawInt T) rfl ?_)
  show wpAny _ _ (loadIfAlive ((T : Int)).toNat >>= _) _ _ _
  refine wpAny_bind (any_loadIfAlive ?_)
  rw [Int.toNat_natCast, hT]
  show wpAny _ _ (field (.ref z) 1 >>= _) _ _ _
  refine wpAny_bind (wpAny_field hz rfl (x := .bool b1) rfl ?_)
  cases b1 with
  | true => exact wpAny_pure (hQ s.heap hz (.refl ..))
  | false =>
    show wpAny _ _ (setField (.ref z) 1 (.bool true) >>= _) _ _ _
    exact wpAny_bind (wpAny_setField_rec hz (by simp) fun h' hz' hs' => wpAny_pure (hQ h' hz' hs'))

theorem zip_next_taken {z TI TO T i1 i2 l1 l2 : Addr} {b1 : Bool} {o : Obj} {k1 k2 : Nat} {xs ys : Array Value} {x y : Value} {Q : Value → Shared → Prop} (D : ZipApart z TI TO i1 i2 l1 l2)
    (hz : s.heap.get? z = some (zipObj (rawInt T) (.bool b1) TI TO)) (hT : s.heap.get? T = some o) (hTI : IsPair s.heap TI (.ref i1) (.ref i2))
    (h1 : s.heap.IsListIter i1 l1 k1) (h2 : s.heap.IsListIter i2 l2 k2) (hl1 : s.heap.IsList l1 xs) (hl2 : s.heap.IsList l2 ys) (hx : xs[k1]? = some x) (hy : ys[k2]? = some y)
    (hQ : ∀ h', h'.get? z = some (zipObj (rawInt T) (.bool true) TI TO) → h'.IsListIter i1 l1 (k1 + 1) → h'.IsListIter i2 l2 (k2 + 1) → IsPair h' s.heap.objs.size x y → h'.objs.size = s.heap.objs.size + 1 →
      (∀ c o, c ≠ z → c ≠ i1 → c ≠ i2 → s.heap.get? c = some o → h'.get? c = some o) → Q (.ref s.heap.objs.size) { s with heap := h' }) :
    wpAny (model prog w) A (Builtin.«zip.__next__» ⟨[.ref z], []⟩) (fun fin s' => ∃ v, fin = .done (.ret v) ∧ Q v s') E s := by
  show wpAny _ _ (field (.ref z) 2 >>= _) _ _ _
  refine wpAny_bind (wpAny_field hz rfl (x := .bool false) rfl ?_)
  show wpAny _ _ (field (.ref z) 3 >>= _) _ _ _
  refine wpAny_bind (wpAny_field hz rfl (x := .ref TI) rfl ?_)
  refine wpAny_bind (wpAny_seqItems hTI rfl ?_)
  show wpAny _ _ (Builtin.SmallTypes.ownedTupleIsFree (.ref z) >>= _) _ _ _
  refine wpAny_bind (zip_taken hz hT fun h₁ hz₁ hs₁ => ?_)
  have h1₁ := h1.extBut hs₁.extBut D.i1z
  have h2₁ := h2.extBut hs₁.extBut D.i2z
  have hl1₁ := hl1.extBut hs₁.extBut D.l1z
  have hl2₁ := hl2.extBut hs₁.extBut D.l2z
  simp only [Bool.false_eq_true, if_false]
  refine wpAny_bind ?_
  rw [← Array.forIn_toList]
  simp only [List.forIn_cons, List.forIn_nil]
  refine wpAny_bind (wpAny_bind (wpAny_holding ?_))
  show wpAny _ _ (Builtin.SmallTypes.nextOf (.ref i1) >>= _) _ _ _
  refine wpAny_bind (wpAny_nextOf_list_item h1₁ hl1₁ hx fun h₂ h1₂ hs₂ => wpAny_pure ?_)
  refine wpAny_pure ?_
  refine wpAny_bind (wpAny_bind (wpAny_holding ?_))
  show wpAny _ _ (Builtin.SmallTypes.nextOf (.ref i2) >>= _) _ _ _
  refine wpAny_bind (wpAny_nextOf_list_item (h2₁.extBut hs₂.extBut D.i12.symm) (hl2₁.extBut hs₂.extBut D.l2i1) hy fun h₃ h2₃ hs₃ => wpAny_pure ?_)
  refine wpAny_pure (wpAny_pure ?_)
  show wpAny _ _ (newTuple [x, y] >>= _) _ _ _
  refine wpAny_bind (wpAny_newTuple ?_)
  have hsz : h₃.objs.size = s.heap.objs.size := by rw [hs₃.1, hs₂.1, hs₁.1]
  refine wpAny_pure ⟨_, rfl, ?_⟩
  rw [hsz]
  refine hQ _ (Heap.get?_push_of_some _ (hs₃.extBut _ _ D.i2z.symm (hs₂.extBut _ _ D.i1z.symm hz₁))) ?_ ?_ ?_ ?_ ?_
  · exact ((h1₂.extBut hs₃.extBut D.i12)).at fun o e => Heap.get?_push_of_some _ e
  · exact h2₃.at fun o e => Heap.get?_push_of_some _ e
  · rw [← hsz]; exact Heap.get?_push_size _ rfl
  · rw [Heap.size_push, hsz]
  · exact fun c o c1 c2 c3 e => Heap.get?_push_of_some _ (hs₃.extBut _ _ c3 (hs₂.extBut _ _ c2 (hs₁.extBut _ _ c1 e)))

theorem zip_end_taken {z TI TO T i1 i2 l1 l2 : Addr} {b1 : Bool} {o : Obj} {k1 : Nat} {xs : Array Value} {Q : Fin → Shared → Prop} (hh : A.handled = none) (D : ZipApart z TI TO i1 i2 l1 l2)
    (hz : s.heap.get? z = some (zipObj (rawInt T) (.bool b1) TI TO)) (hT : s.heap.get? T = some o) (hTI : IsPair s.heap TI (.ref i1) (.ref i2))
    (h1 : s.heap.IsListIter i1 l1 k1) (hl1 : s.heap.IsList l1 xs) (hx : xs[k1]? = none)
    (hE : ∀ h' e, (∀ c o, c ≠ z → c ≠ i1 → s.heap.get? c = some o → h'.get? c = some o) → (∃ o, h'.get? e = some o ∧ o.cls = .type "StopIteration") → E (.ref e) { s with heap := h' }) :
    wpAny (model prog w) A (Builtin.«zip.__next__» ⟨[.ref z], []⟩) Q E s := by
  show wpAny _ _ (field (.ref z) 2 >>= _) _ _ _
  refine wpAny_bind (wpAny_field hz rfl (x := .bool false) rfl ?_)
  show wpAny _ _ (field (.ref z) 3 >>= _) _ _ _
  refine wpAny_bind (wpAny_field hz rfl (x := .ref TI) rfl ?_)
  refine wpAny_bind (wpAny_seqItems hTI rfl ?_)
  show wpAny _ _ (Builtin.SmallTypes.ownedTupleIsFree (.ref z) >>= _) _ _ _
  refine wpAny_bind (zip_taken hz hT fun h₁ hz₁ hs₁ => ?_)
  have h1₁ := h1.extBut hs₁.extBut D.i1z
  have hl1₁ := hl1.extBut hs₁.extBut D.l1z
  simp only [Bool.false_eq_true, if_false]
  refine wpAny_bind ?_
  rw [← Array.forIn_toList]
  simp only [List.forIn_cons, List.forIn_nil]
  refine wpAny_bind (wpAny_bind (wpAny_holding ?_))
  show wpAny _ _ (Builtin.SmallTypes.nextOf (.ref i1) >>= _) _ _ _
  refine wpAny_bind (wpAny_nextOf_list_end hh h1₁ hl1₁ hx fun h₂ e hs₂ he => ?_)
  exact hE h₂ e (fun c o c1 c2 x => hs₂ _ _ c2 (hs₁.extBut _ _ c1 x)) he

theorem pyNext_zip_taken {z TI TO T i1 i2 l1 l2 : Addr} {b1 : Bool} {o : Obj} {k1 k2 : Nat} {xs ys : Array Value} {x y : Value} {Q : Option Value → Shared → Prop} (D : ZipApart z TI TO i1 i2 l1 l2)
    (hz : s.heap.get? z = some (zipObj (rawInt T) (.bool b1) TI TO)) (hT : s.heap.get? T = some o) (hTI : IsPair s.heap TI (.ref i1) (.ref i2))
    (h1 : s.heap.IsListIter i1 l1 k1) (h2 : s.heap.IsListIter i2 l2 k2) (hl1 : s.heap.IsList l1 xs) (hl2 : s.heap.IsList l2 ys) (hx : xs[k1]? = some x) (hy : ys[k2]? = some y)
    (hQ : ∀ h', h'.get? z = some (zipObj (rawInt T) (.bool true) TI TO) → h'.IsListIter i1 l1 (k1 + 1) → h'.IsListIter i2 l2 (k2 + 1) → IsPair h' s.heap.objs.size x y → h'.objs.size = s.heap.objs.size + 1 →
      (∀ c o, c ≠ z → c ≠ i1 → c ≠ i2 → s.heap.get? c = some o → h'.get? c = some o) → Q (some (.ref s.heap.objs.size)) { s with heap := h' }) :
    wpAny (model prog w) A (pyNext (.ref z)) Q E s := by
  have hTy : s.TypeIs (.ref z) "zip" := ⟨_, hz, rfl⟩
  unfold pyNext
  exact wpAny_bind (wpAny_attempt (wpAny_callSpecial?_slot (name := Str.ofString "__next__") hTy F.slot_zip_next
    (wpAny_call_entry F.slot_zip_next hTy F.entry_zip_next
      (zip_next_taken D hz hT hTI h1 h2 hl1 hl2 hx hy fun h' a1 a2 a3 a4 a5 a6 => wpAny_pure (hQ h' a1 a2 a3 a4 a5 a6)) (F.args_zip_next_1 _))))

theorem pyNext_zip_endT {z TI TO T i1 i2 l1 l2 : Addr} {b1 : Bool} {o : Obj} {k1 : Nat} {xs : Array Value} {Q : Option Value → Shared → Prop} (hh : A.handled = none) (D : ZipApart z TI TO i1 i2 l1 l2)
    (hz : s.heap.get? z = some (zipObj (rawInt T) (.bool b1) TI TO)) (hT : s.heap.get? T = some o) (hTI : IsPair s.heap TI (.ref i1) (.ref i2))
    (h1 : s.heap.IsListIter i1 l1 k1) (hl1 : s.heap.IsList l1 xs) (hx : xs[k1]? = none)
    (hQ : ∀ h', (∀ c o, c ≠ z → c ≠ i1 → s.heap.get? c = some o → h'.get? c = some o) → Q none { s with heap := h' }) : wpAny (model prog w) A (pyNext (.ref z)) Q E s := by
  have hTy : s.TypeIs (.ref z) "zip" := ⟨_, hz, rfl⟩
  unfold pyNext
  refine wpAny_bind (wpAny_attempt (wpAny_callSpecial?_slot (name := Str.ofString "__next__") hTy F.slot_zip_next
    (wpAny_call_entry F.slot_zip_next hTy F.entry_zip_next (zip_end_taken hh D hz hT hTI h1 hl1 hx fun h' e hk he => ?_) (F.args_zip_next_1 _))))
  obtain ⟨o, ho, hc⟩ := he
  refine wpAny_bind (wpAny_isInstance (T := "StopIteration") (b := true) ⟨o, ho, hc⟩ isSubtype_stop ?_)
  exact wpAny_pure (hQ _ hk)
end

/-- a zip of two lists that stands before its i-th pair; whoever takes the pairs keeps them -/
structure ZW (h : Heap) (z TI TO i1 i2 l1 l2 : Addr) (xs ys : Array Value) (i : Nat) : Prop where
  zp : (i = 0 ∧ IsZip h z TI TO .none) ∨ ∃ (T : Nat) (b1 : Bool) (x y : Value), h.get? z = some (zipObj (rawInt T) (.bool b1) TI TO) ∧ IsPair h T x y
  ti : IsPair h TI (.ref i1) (.ref i2)
  to : ∃ a b, IsPair h TO a b
  p1 : h.IsListIter i1 l1 i
  p2 : h.IsListIter i2 l2 i
  q1 : h.IsList l1 xs
  q2 : h.IsList l2 ys

theorem cls_apart {h : Heap} {a b : Addr} {o o' : Obj} (ha : h.get? a = some o) (hb : h.get? b = some o') (hc : o.cls ≠ o'.cls) : a ≠ b := by
  rintro rfl
  rw [ha] at hb
  cases hb
  exact hc rfl
theorem pair_ne_iter {h : Heap} {T I l : Addr} {x y : Value} {i : Nat} (a : IsPair h T x y) (b : h.IsListIter I l i) : T ≠ I := by
  obtain ⟨o, ho, hc, _⟩ := b
  exact cls_apart a ho (by rw [hc]; simp)
theorem pair_ne_list {h : Heap} {T S : Addr} {x y : Value} {o : Obj} (a : IsPair h T x y) (b : h.get? S = some o) (hc : o.cls = .type "list") : T ≠ S :=
  cls_apart a b (by rw [hc]; simp)
theorem ZW.zget {h : Heap} {z TI TO i1 i2 l1 l2 : Addr} {xs ys : Array Value} {i : Nat} (Z : ZW h z TI TO i1 i2 l1 l2 xs ys i) : ∃ o, h.get? z = some o ∧ o.cls = .type "zip" := by
  rcases Z.zp with ⟨_, x⟩ | ⟨_, _, _, _, x, _⟩
  · exact ⟨_, x, rfl⟩
  · exact ⟨_, x, rfl⟩
theorem ZW.apart {h : Heap} {z TI TO i1 i2 l1 l2 : Addr} {xs ys : Array Value} {i : Nat} (Z : ZW h z TI TO i1 i2 l1 l2 xs ys i) {S : Addr} {o : Obj} (oS : h.get? S = some o) (hc : o.cls = .type "list") : S ≠ z ∧ S ≠ TO ∧ S ≠ i1 ∧ S ≠ i2 := by
  obtain ⟨oz, hz, cz⟩ := Z.zget
  obtain ⟨a, b, x⟩ := Z.to
  obtain ⟨o1, h1, c1, _⟩ := Z.p1
  obtain ⟨o2, h2, c2, _⟩ := Z.p2
  exact ⟨cls_apart oS hz (by rw [hc, cz]; simp), (pair_ne_list x oS hc).symm, cls_apart oS h1 (by rw [hc, c1]; simp), cls_apart oS h2 (by rw [hc, c2]; simp)⟩
theorem ZW.pairApart {h : Heap} {z TI TO i1 i2 l1 l2 : Addr} {xs ys : Array Value} {i : Nat} (Z : ZW h z TI TO i1 i2 l1 l2 xs ys i) {T : Addr} {x y : Value} (a : IsPair h T x y) : T ≠ z ∧ T ≠ i1 ∧ T ≠ i2 := by
  obtain ⟨oz, hz, cz⟩ := Z.zget
  exact ⟨cls_apart a hz (by rw [cz]; simp), pair_ne_iter a Z.p1, pair_ne_iter a Z.p2⟩

theorem ZW.frame {h h' : Heap} {z TI TO i1 i2 l1 l2 : Addr} {xs ys : Array Value} {i : Nat} (Z : ZW h z TI TO i1 i2 l1 l2 xs ys i) (S : Addr) (n1 : S ≠ l1) (n2 : S ≠ l2) {o : Obj}
    (oS : h.get? S = some o) (hc : o.cls = .type "list") (hk : ∀ b o, b ≠ S → h.get? b = some o → h'.get? b = some o) : ZW h' z TI TO i1 i2 l1 l2 xs ys i := by
  obtain ⟨nz, _, ni1, ni2⟩ := Z.apart oS hc
  refine ⟨?_, hk _ _ (pair_ne_list Z.ti oS hc) Z.ti, ?_, Z.p1.at fun o e => hk _ o ni1.symm e, Z.p2.at fun o e => hk _ o ni2.symm e, Z.q1.at fun o e => hk _ o n1.symm e, Z.q2.at fun o e => hk _ o n2.symm e⟩
  · rcases Z.zp with ⟨e, x⟩ | ⟨T, b1, x, y, a, b⟩
    · exact .inl ⟨e, hk _ _ nz.symm x⟩
    · exact .inr ⟨T, b1, x, y, hk _ _ nz.symm a, hk _ _ (pair_ne_list b oS hc) b⟩
  · obtain ⟨a, b, x⟩ := Z.to
    exact ⟨a, b, hk _ _ (pair_ne_list x oS hc) x⟩

section
variable {prog : Program} {w : World} {A : Around} {E : Value → Shared → Prop} {s : Shared} {z TI TO i1 i2 l1 l2 : Addr} {xs ys : Array Value} {i : Nat}

theorem ZW.lt {h : Heap} (Z : ZW h z TI TO i1 i2 l1 l2 xs ys i) : z < h.objs.size ∧ TO < h.objs.size ∧ i1 < h.objs.size ∧ i2 < h.objs.size := by
  refine ⟨?_, ?_, ?_, ?_⟩
  · rcases Z.zp with ⟨_, x⟩ | ⟨_, _, _, _, x, _⟩ <;> exact Heap.lt_size x
  · obtain ⟨_, _, x⟩ := Z.to; exact Heap.lt_size x
  · obtain ⟨_, x, _⟩ := Z.p1; exact Heap.lt_size x
  · obtain ⟨_, x, _⟩ := Z.p2; exact Heap.lt_size x

theorem ZW.item {Q : Option Value → Shared → Prop} {x y : Value} (Z : ZW s.heap z TI TO i1 i2 l1 l2 xs ys i) (D : ZipApart z TI TO i1 i2 l1 l2) (hx : xs[i]? = some x) (hy : ys[i]? = some y)
    (hQ : ∀ h', ZW h' z TI TO i1 i2 l1 l2 xs ys (i + 1) → IsPair h' s.heap.objs.size x y → (∀ c o, c ≠ z → c ≠ TO → c ≠ i1 → c ≠ i2 → s.heap.get? c = some o → h'.get? c = some o) →
      h'.objs.size = s.heap.objs.size + 1 → Q (some (.ref s.heap.objs.size)) { s with heap := h' }) :
    wpAny (model prog w) A (pyNext (.ref z)) Q E s := by
  obtain ⟨a, b, hTO⟩ := Z.to
  have l1o : ∀ h' : Heap, (∀ c o, c ≠ z → c ≠ TO → c ≠ i1 → c ≠ i2 → s.heap.get? c = some o → h'.get? c = some o) → h'.IsList l1 xs ∧ h'.IsList l2 ys ∧ IsPair h' TI (.ref i1) (.ref i2) := fun h' hk =>
    ⟨Z.q1.at fun o e => hk _ o D.l1z D.l1TO D.l1i1 D.l1i2 e, Z.q2.at fun o e => hk _ o D.l2z D.l2TO D.l2i1 D.l2i2 e, hk _ _ D.TIz D.TITO D.TIi1 D.TIi2 Z.ti⟩
  rcases Z.zp with ⟨e, hz⟩ | ⟨T, b1, x', y', hz, hT⟩
  · subst e
    refine wpAny_pyNext_zip_item D hz Z.ti hTO Z.p1 Z.p2 Z.q1 Z.q2 hx hy fun h' a1 a2 a3 a4 a5 a6 hk => ?_
    obtain ⟨k1, k2, k3⟩ := l1o h' hk
    exact hQ h' ⟨.inr ⟨_, false, _, _, a1, a5⟩, k3, ⟨_, _, a2⟩, a3, a4, k1, k2⟩ a5 hk a6
  · refine pyNext_zip_taken D hz hT Z.ti Z.p1 Z.p2 Z.q1 Z.q2 hx hy fun h' a1 a3 a4 a5 a6 hk => ?_
    have hk' : ∀ c o, c ≠ z → c ≠ TO → c ≠ i1 → c ≠ i2 → s.heap.get? c = some o → h'.get? c = some o := fun c o c1 _ c3 c4 e => hk c o c1 c3 c4 e
    obtain ⟨k1, k2, k3⟩ := l1o h' hk'
    obtain ⟨n1, n2, n3⟩ := Z.pairApart hT
    exact hQ h' ⟨.inr ⟨T, true, x', y', a1, hk _ _ n1 n2 n3 hT⟩, k3, ⟨_, _, hk _ _ D.TOz D.TOi1 D.TOi2 hTO⟩, a3, a4, k1, k2⟩ a5 hk' a6

theorem ZW.done {Q : Option Value → Shared → Prop} (hh : A.handled = none) (Z : ZW s.heap z TI TO i1 i2 l1 l2 xs ys i) (D : ZipApart z TI TO i1 i2 l1 l2) (hx : xs[i]? = none)
    (hQ : ∀ h', (∀ c o, c ≠ z → c ≠ TO → c ≠ i1 → c ≠ i2 → s.heap.get? c = some o → h'.get? c = some o) → Q none { s with heap := h' }) :
    wpAny (model prog w) A (pyNext (.ref z)) Q E s := by
  obtain ⟨a, b, hTO⟩ := Z.to
  rcases Z.zp with ⟨e, hz⟩ | ⟨T, b1, x', y', hz, hT⟩
  · exact wpAny_pyNext_zip_end hh D hz Z.ti hTO Z.p1 Z.p2 Z.q1 Z.q2 (.inl hx) hQ
  · exact pyNext_zip_endT hh D hz hT Z.ti Z.p1 Z.q1 hx fun h' hk => hQ h' fun c o c1 _ c3 _ e => hk c o c1 c3 e
end

/-- the pairs that a list bears: each a new tuple -/
def PairsAt (h : Heap) (N0 : Nat) (xs ys : Array Value) (acc : Array Value) (i : Nat) : Prop :=
  acc.size = i ∧ ∀ (j : Nat) (v : Value), acc[j]? = some v → ∃ (T : Addr) (x y : Value), v = Value.ref T ∧ N0 ≤ T ∧ xs[j]? = some x ∧ ys[j]? = some y ∧ IsPair h T x y

theorem PairsAt.mono {h h' : Heap} {N0 : Nat} {xs ys acc : Array Value} {i : Nat} (P : PairsAt h N0 xs ys acc i) (hk : ∀ (T : Addr) x y, N0 ≤ T → IsPair h T x y → IsPair h' T x y) : PairsAt h' N0 xs ys acc i :=
  ⟨P.1, fun j v hv => let ⟨T, x, y, a, b, c, d, e⟩ := P.2 j v hv; ⟨T, x, y, a, b, c, d, hk T x y b e⟩⟩
theorem PairsAt.push {h : Heap} {N0 : Nat} {xs ys acc : Array Value} {i : Nat} {x y : Value} {T : Addr} (P : PairsAt h N0 xs ys acc i) (hT : N0 ≤ T) (hx : xs[i]? = some x) (hy : ys[i]? = some y) (a : IsPair h T x y) :
    PairsAt h N0 xs ys (acc.push (Value.ref T)) (i + 1) := by
  refine ⟨by rw [Array.size_push, P.1], fun j v hj => ?_⟩
  rw [Array.getElem?_push] at hj
  split at hj
  · rename_i e
    rw [P.1] at e
    cases hj
    rw [e]
    exact ⟨T, x, y, rfl, hT, hx, hy, a⟩
  · exact P.2 j v hj

section
variable {prog : Program} {w : World} {A : Around} {R : Result → Shared → Prop} {E : Value → Shared → Prop} {s : Shared} {z TI TO i1 i2 l1 l2 S : Addr} {xs ys : Array Value}

theorem zip_extend (hh : A.handled = none) (D : ZipApart z TI TO i1 i2 l1 l2) (hsz : xs.size = ys.size) (hn : xs.size ≤ sizeLine) (S1 : S ≠ l1) (S2 : S ≠ l2) (N0 : Nat) (res : Value) (s₀ : Shared) (hTO0 : TO < N0) :
    ∀ (k i : Nat) (h : Heap) (acc : Array Value) (c : Nat), xs.size - i = k → i ≤ xs.size → ZW h z TI TO i1 i2 l1 l2 xs ys i → h.get? S = some { cls := .type "list", dict := none, data := .seq acc c, slots := #[] } →
      PairsAt h N0 xs ys acc i → N0 ≤ h.objs.size → (∀ b o, b ≠ z → b ≠ TO → b ≠ i1 → b ≠ i2 → b ≠ S → s₀.heap.get? b = some o → h.get? b = some o) →
    (∀ h' acc' c', h'.get? S = some { cls := .type "list", dict := none, data := .seq acc' c', slots := #[] } → PairsAt h' N0 xs ys acc' xs.size →
      (∀ b o, b ≠ z → b ≠ TO → b ≠ i1 → b ≠ i2 → b ≠ S → s₀.heap.get? b = some o → h'.get? b = some o) → R (.ok (.ret res)) { s₀ with heap := h' }) →
    codeAny (model prog w) A (.builtin "list.extend.loop" ⟨[.ref S, .ref z, res], []⟩) R { s₀ with heap := h } := by
  intro k
  induction k with
  | zero =>
    intro i h acc c hk hi Z hS P hN hg hR
    have hin : i = xs.size := by omega
    subst hin
    refine codeAny_builtin F.entry_extend_loop ?_
    rw [Around.under_plainId F.plain_extend_loop _]
    show wpAny _ A.in1 (pyNext (.ref z) >>= _) _ _ _
    obtain ⟨sz, sTO, s1, s2⟩ := Z.apart hS rfl
    refine wpAny_bind (ZW.done hh Z D (by simp) fun h' hk' => ?_)
    refine wpAny_pure (hR h' acc c (hk' _ _ sz sTO s1 s2 hS) (P.mono fun T x y hT hp => ?_) fun b o b1 b2 b3 b4 b5 e => hk' _ _ b1 b2 b3 b4 (hg b o b1 b2 b3 b4 b5 e))
    obtain ⟨n1, n2, n3⟩ := Z.pairApart hp
    exact hk' _ _ n1 (Nat.ne_of_gt (Nat.lt_of_lt_of_le hTO0 hT)) n2 n3 hp
  | succ k ih =>
    intro i h acc c hk hi Z hS P hN hg hR
    have hlt : i < xs.size := by omega
    have hlt2 : i < ys.size := by omega
    refine codeAny_builtin F.entry_extend_loop ?_
    rw [Around.under_plainId F.plain_extend_loop _]
    show wpAny _ A.in1 (pyNext (.ref z) >>= _) _ _ _
    obtain ⟨sz, sTO, s1, s2⟩ := Z.apart hS rfl
    have hx : xs[i]? = some xs[i] := by simp [hlt]
    have hy : ys[i]? = some ys[i] := by simp [hlt2]
    have hPs := P.1
    refine wpAny_bind (ZW.item Z D hx hy fun h' Z' hp hk' hs' => ?_)
    dsimp only at hp hk' hs'
    have hS' := hk' _ _ sz sTO s1 s2 hS
    show wpAny _ A.in1 (updateSeq S (·.push (Value.ref h.objs.size)) >>= _) _ _ _
    refine wpAny_bind ?_
    refine wpAny_updateSeq hS' rfl (wpAny_pure ⟨plainId_quiet F.plain_extend_loop _, ih (i + 1) _ (acc.push (.ref h.objs.size)) _ (by omega) hlt
      (Z'.frame S S1 S2 hS' rfl fun b o hb e => (Heap.get?_update_other _ _ (Ne.symm hb)).trans e) (Heap.get?_update_self _ hS' rfl) ?_ ?_ ?_ hR⟩) (by omega) (by rw [Array.size_push]; omega)
    · refine PairsAt.push (P.mono fun T x y hT hq => ?_) hN hx hy ?_
      · obtain ⟨n1, n2, n3⟩ := Z.pairApart hq
        exact (Heap.get?_update_other _ _ (Ne.symm (pair_ne_list hq hS rfl))).trans (hk' _ _ n1 (Nat.ne_of_gt (Nat.lt_of_lt_of_le hTO0 hT)) n2 n3 hq)
      · exact (Heap.get?_update_other _ _ (Ne.symm (pair_ne_list hp hS' rfl))).trans hp
    · show N0 ≤ (h'.update S _).objs.size
      rw [Heap.size_update]; omega
    · exact fun b o b1 b2 b3 b4 b5 e => (Heap.get?_update_other _ _ (Ne.symm b5)).trans (hk' _ _ b1 b2 b3 b4 (hg b o b1 b2 b3 b4 b5 e))
end

theorem zip_no_len : typeLookup (.type "zip") "__len__" = pure none := by rw [typeLookup_type, builtinLookup_eq_fast]; kernel_rfl
theorem zip_no_hint : typeLookup (.type "zip") "__length_hint__" = pure none := by rw [typeLookup_type, builtinLookup_eq_fast]; kernel_rfl

section
variable {prog : Program} {w : World} {A : Around} {R : Result → Shared → Prop} {E : Value → Shared → Prop} {s : Shared} {z TI TO i1 i2 l1 l2 S : Addr} {xs ys : Array Value}

theorem zip_extendWith (hh : A.handled = none) (D : ZipApart z TI TO i1 i2 l1 l2) (hsz : xs.size = ys.size) (hn : xs.size ≤ sizeLine) (S1 : S ≠ l1) (S2 : S ≠ l2) (N0 : Nat) (res : Value) (hTO0 : TO < N0) (hN : N0 ≤ s.heap.objs.size) (c₀ : Nat)
    (hzz : IsZip s.heap z TI TO .none) (Z : ZW s.heap z TI TO i1 i2 l1 l2 xs ys 0) (hS : s.heap.get? S = some { cls := .type "list", data := .seq #[] c₀ })
    (hR : ∀ h' acc' c', h'.get? S = some { cls := .type "list", dict := none, data := .seq acc' c', slots := #[] } → PairsAt h' N0 xs ys acc' xs.size →
      (∀ b o, b ≠ z → b ≠ TO → b ≠ i1 → b ≠ i2 → b ≠ S → s.heap.get? b = some o → h'.get? b = some o) → R (.ok (.ret res)) { s with heap := h' }) :
    wpAny (model prog w) A.in1 (Builtin.List.listExtendWith (.ref S) (.ref z) res)
      (fun fin s' => match fin with | .done f => R (.ok f) s' | .again c' => c'.quiet = true ∧ codeAny (model prog w) A c' R s') (fun e s' => R (.error e) s') s := by
  obtain ⟨sz, sTO, s1, s2⟩ := Z.apart hS rfl
  obtain ⟨oz, hz, cz⟩ := Z.zget
  have hTy : s.TypeIs (.ref z) "zip" := ⟨_, hz, cz⟩
  unfold Builtin.List.listExtendWith
  refine wpAny_bind (wpAny_typeOf hTy ?_)
  have h1 : Builtin.List.listSameRef (.ref S) (.ref z) = false := by simp [Builtin.List.listSameRef, sz]
  have h2 : (Value.type "zip" == Value.type "list") = false := by decide
  have h3 : (Value.type "zip" == Value.type "tuple") = false := by decide
  simp only [h1, h2, h3, Bool.or_false, Bool.false_eq_true, if_false]
  refine wpAny_bind ?_
  refine wpAny_pyIter_zip hzz ?_
  refine wpAny_bind (wpAny_holding ?_)
  unfold Builtin.List.listLengthHint
  refine wpAny_bind (wpAny_specialOf hTy zip_no_len ?_)
  show wpAny _ A.in1 (specialOf (Value.ref z) (Str.ofString "__length_hint__") >>= _) _ _ _
  refine wpAny_bind (wpAny_specialOf hTy zip_no_hint ?_)
  refine wpAny_pure ?_
  show wpAny _ A.in1 (rule "list.extend.makes-room" >>= fun _ => Builtin.List.listTouch (.ref S) >>= fun _ =>
    again (.builtin "list.extend.loop" ⟨[.ref S, .ref z, res], []⟩)) _ _ _
  refine wpAny_bind (wpAny_rule ?_)
  refine wpAny_bind ?_
  show wpAny _ A.in1 (updateSeq S (·.push .none) >>= fun _ => updateSeq S (·.pop)) _ _ _
  refine wpAny_bind (wpAny_updateSeq hS rfl ?_)
  have hS₂ := Heap.get?_update_self (Obj.mapSeq (·.push Value.none)) hS rfl
  refine wpAny_updateSeq (hz := by seq_fits) hS₂ rfl ?_
  have hS₃ := Heap.get?_update_self (Obj.mapSeq (·.pop)) hS₂ rfl
  have oth : ∀ b o, b ≠ S → s.heap.get? b = some o → ((s.heap.update S (Obj.mapSeq (·.push Value.none))).update S (Obj.mapSeq (·.pop))).get? b = some o :=
    fun b o hb e => (Heap.get?_update_other _ _ (Ne.symm hb)).trans ((Heap.get?_update_other _ _ (Ne.symm hb)).trans e)
  refine wpAny_pure ⟨plainId_quiet F.plain_extend_loop _, zip_extend hh D hsz hn S1 S2 N0 res s hTO0 _ 0 _ _ _ rfl (Nat.zero_le _) (Z.frame S S1 S2 hS rfl oth) hS₃ ⟨rfl, fun j v h => by simp at h⟩ ?_ (fun b o _ _ _ _ b5 e => oth b o b5 e) hR⟩
  rw [Heap.size_update, Heap.size_update]; exact hN

theorem list_zip {Q : Value → Shared → Prop} (hh : A.handled = none) (D : ZipApart z TI TO i1 i2 l1 l2) (hsz : xs.size = ys.size) (hn : xs.size ≤ sizeLine) (hzz : IsZip s.heap z TI TO .none) (Z : ZW s.heap z TI TO i1 i2 l1 l2 xs ys 0)
    (hQ : ∀ h' acc c, h'.get? s.heap.objs.size = some { cls := .type "list", dict := none, data := .seq acc c, slots := #[] } → PairsAt h' s.heap.objs.size xs ys acc xs.size →
      (∀ b o, b ≠ z → b ≠ TO → b ≠ i1 → b ≠ i2 → s.heap.get? b = some o → h'.get? b = some o) → Q (.ref s.heap.objs.size) { s with heap := h' }) :
    wpAny (model prog w) A (call (.type "list") [.ref z]) Q E s := by
  obtain ⟨fz, fTO, _, _⟩ := Z.lt
  have fl1 : l1 < s.heap.objs.size := by obtain ⟨_, e, _⟩ := Z.q1; exact Heap.lt_size e
  have fl2 : l2 < s.heap.objs.size := by obtain ⟨_, e, _⟩ := Z.q2; exact Heap.lt_size e
  refine callType_codes (Q₁ := fun obj s₁ => obj = .ref s.heap.objs.size ∧ s₁ = { s with heap := s.heap.push { cls := .type "list", data := .seq #[] } }) F.called_list (F.typeCall_list_1 _) F.entry_list_init
    (code_list_new _ ⟨rfl, rfl⟩) fun obj s₁ h₁ => ?_
  obtain ⟨rfl, rfl⟩ := h₁
  have hS : (s.heap.push { cls := .type "list", data := .seq #[] }).get? s.heap.objs.size = some { cls := .type "list", data := .seq #[] } := Heap.get?_push_size _ rfl
  have old : ∀ b o, s.heap.get? b = some o → (s.heap.push { cls := .type "list", data := .seq #[] }).get? b = some o := fun b o e => Heap.get?_push_of_some _ e
  have Zp : ZW (s.heap.push { cls := .type "list", data := .seq #[] }) z TI TO i1 i2 l1 l2 xs ys 0 := by
    refine ⟨?_, old _ _ Z.ti, ?_, Z.p1.at (old _), Z.p2.at (old _), Z.q1.at (old _), Z.q2.at (old _)⟩
    · rcases Z.zp with ⟨e, x⟩ | ⟨T, b1, x, y, a, b⟩
      · exact .inl ⟨e, old _ _ x⟩
      · exact .inr ⟨T, b1, x, y, old _ _ a, old _ _ b⟩
    · obtain ⟨a, b, x⟩ := Z.to
      exact ⟨a, b, old _ _ x⟩
  refine ⟨⟨_, hS, rfl⟩, F.args_list_init_2 _ _, ?_⟩
  show wpAny _ A.in1.in1 (do let old ← Builtin.List.listItems (.ref s.heap.objs.size); Builtin.List.listUpdate (.ref s.heap.objs.size) (fun _ => #[]); letGo old.toList.reverse; Builtin.List.listExtendWith (.ref s.heap.objs.size) (.ref z) .none) _ _ _
  refine wpAny_bind ?_
  unfold Builtin.List.listItems
  refine wpAny_bind (wpAny_seqItems hS rfl (wpAny_pure ?_))
  show wpAny _ A.in1.in1 (updateSeq s.heap.objs.size (fun _ => #[]) >>= fun _ => letGo (#[] : Array Value).toList.reverse >>= fun _ => Builtin.List.listExtendWith (.ref s.heap.objs.size) (.ref z) .none) _ _ _
  refine wpAny_bind (wpAny_updateSeq hS rfl ?_)
  have hS₂ := Heap.get?_update_self (Obj.mapSeq (fun _ => (#[] : Array Value))) hS rfl
  have oth : ∀ b o, b ≠ s.heap.objs.size → (s.heap.push { cls := .type "list", data := .seq #[] }).get? b = some o → ((s.heap.push { cls := .type "list", data := .seq #[] }).update s.heap.objs.size (Obj.mapSeq (fun _ => (#[] : Array Value)))).get? b = some o :=
    fun b o hb e => (Heap.get?_update_other _ _ (Ne.symm hb)).trans e
  refine wpAny_bind (wpAny_letGo ?_)
  refine zip_extendWith (A := A.in1) (R := wants (fun r s₂ => r = .none ∧ Q (.ref s.heap.objs.size) s₂) E) hh D hsz hn (Nat.ne_of_gt fl1) (Nat.ne_of_gt fl2) s.heap.objs.size .none fTO ?_ _ (oth _ _ (Nat.ne_of_lt fz) (old _ _ hzz)) (Zp.frame _ (Nat.ne_of_gt fl1) (Nat.ne_of_gt fl2) hS rfl oth) hS₂ fun h' acc' c' hS' hacc hk => ?_
  · dsimp only
    rw [Heap.size_update, Heap.size_push]; exact Nat.le_succ _
  · exact ⟨rfl, hQ h' acc' c' hS' hacc fun b o b1 b2 b3 b4 e => hk b o b1 b2 b3 b4 (Nat.ne_of_lt (Heap.lt_size e)) (oth b o (Nat.ne_of_lt (Heap.lt_size e)) (old b o e))⟩
end
end Mine
end

-- ZipK
section
open PySem PySem.W PySem.Calls PyProof.Rows
open Sem (wp)
set_option Elab.async false
set_option maxRecDepth 100000
set_option maxHeartbeats 8000000
namespace Mine
theorem off_ZipK : True := by w_top off; trivial

/-- a zip that has just been made: what it turns is new -/
def ZipNew (h₀ : Heap) (L : Addr) (news : List (Addr × Obj)) (h : Heap) (z l1 l2 : Addr) (xs ys : Array Value) : Prop :=
  ∃ TI TO i1 i2, ZipApart z TI TO i1 i2 l1 l2 ∧ IsZip h z TI TO .none ∧ ZW h z TI TO i1 i2 l1 l2 xs ys 0 ∧ ∀ a, a = z ∨ a = TO ∨ a = i1 ∨ a = i2 → h₀.get? a = none ∧ a ≠ L ∧ ∀ p ∈ news, p.1 ≠ a

def pairLed : List Addr → List (Value × Value) → List (Addr × Obj)
  | T :: Ts, (x, y) :: r => (T, pairObj x y) :: pairLed Ts r
  | _, _ => []

theorem pairLed_mem : ∀ {Ts : List Addr} {ps : List (Value × Value)} {q : Addr × Obj}, q ∈ pairLed Ts ps → ∃ (j : Nat) (T : Addr) (x y : Value), Ts[j]? = some T ∧ ps[j]? = some (x, y) ∧ q = (T, pairObj x y)
  | [], _, _, h => by simp [pairLed] at h
  | _ :: _, [], _, h => by simp [pairLed] at h
  | T :: Ts, (x, y) :: ps, q, h => by
    simp only [pairLed, List.mem_cons] at h
    rcases h with rfl | h
    · exact ⟨0, T, x, y, rfl, rfl, rfl⟩
    · obtain ⟨j, T', x', y', a, b, c⟩ := pairLed_mem h
      exact ⟨j + 1, T', x', y', a, b, c⟩

section
variable {prog : Program} {w : World} {A : Around} {E : Value → Shared → Prop} {s : Shared} {h₀ : Heap} {L z l1 l2 : Addr} {m : Str → Option Value} {news : List (Addr × Obj)} {xs ys : Array Value} {Q : Value → Shared → Prop}

theorem zipK (F : Fr h₀ L s.heap m) (N : News h₀ L s.heap news) (hl1 : s.heap.IsList l1 xs) (hl2 : s.heap.IsList l2 ys)
    (h : ∀ z h', Fr h₀ L h' m → News h₀ L h' news → ZipNew h₀ L news h' z l1 l2 xs ys → Q (.ref z) { s with heap := h' }) : wpAny (model prog w) A (call (.type "zip") [.ref l1, .ref l2]) Q E s := by
  have a1 : l1 < s.heap.objs.size := by obtain ⟨_, e, _⟩ := hl1; exact Heap.lt_size e
  have a2 : l2 < s.heap.objs.size := by obtain ⟨_, e, _⟩ := hl2; exact Heap.lt_size e
  refine call_zip_2 hl1 hl2 fun h' hz hTI hTO hi1 hi2 _ hk => h _ h' (F.keeps hk) (N.grown hk) ⟨_, _, _, _, zipApart_new a1 a2, hz, ⟨.inl ⟨rfl, hz⟩, hTI, ⟨_, _, hTO⟩, hi1, hi2, hl1.at fun o e => hk _ o e, hl2.at fun o e => hk _ o e⟩, fun a ha => ?_⟩
  have big : s.heap.objs.size ≤ a := by
    rcases ha with rfl | rfl | rfl | rfl
    · exact Nat.le_add_right _ _
    · exact Nat.le_add_right _ _
    · exact Nat.le_refl _
    · exact Nat.le_add_right _ _
  refine ⟨?_, Nat.ne_of_gt (Nat.lt_of_lt_of_le F.ns.lt big), fun p hp => Nat.ne_of_lt (Nat.lt_of_lt_of_le (Heap.lt_size (N p hp).1) big)⟩
  cases q : h₀.get? a with
  | none => rfl
  | some o => exact absurd (Heap.lt_size (F.keep _ _ q)) (Nat.not_lt.mpr big)

theorem listZipK (hh : A.handled = none) (F : Fr h₀ L s.heap m) (N : News h₀ L s.heap news) (Z : ZipNew h₀ L news s.heap z l1 l2 xs ys) (hsz : xs.size = ys.size) (hn : xs.size ≤ sizeLine)
    (h : ∀ D c h' Ts, Fr h₀ L h' m → (∀ p ∈ news, p.1 < D) → (∀ T ∈ Ts, @LT.lt Nat _ D T) → Ts.length = xs.size → News h₀ L h' ((D, listOf (Ts.map Value.ref).toArray c) :: (pairLed Ts (xs.toList.zip ys.toList) ++ news)) → Q (.ref D) { s with heap := h' }) :
    wpAny (model prog w) A (call (.type "list") [.ref z]) Q E s := by
  obtain ⟨TI, TO, i1, i2, D, hz, Zw, off⟩ := Z
  refine list_zip hh D hsz hn hz Zw fun h' acc c hacc P hk => ?_
  have oz := off z (.inl rfl)
  have oTO := off TO (.inr (.inl rfl))
  have o1 := off i1 (.inr (.inr (.inl rfl)))
  have o2 := off i2 (.inr (.inr (.inr rfl)))
  have kb : ∀ b o, h₀.get? b = some o → b ≠ z ∧ b ≠ TO ∧ b ≠ i1 ∧ b ≠ i2 := fun b o e =>
    ⟨fun q => (by rw [q, oz.1] at e; cases e), fun q => (by rw [q, oTO.1] at e; cases e), fun q => (by rw [q, o1.1] at e; cases e), fun q => (by rw [q, o2.1] at e; cases e)⟩
  have F' : Fr h₀ L h' m := ⟨F.ns.at' fun o e => hk _ _ oz.2.1.symm oTO.2.1.symm o1.2.1.symm o2.2.1.symm e, fun b o e => hk _ _ (kb b o e).1 (kb b o e).2.1 (kb b o e).2.2.1 (kb b o e).2.2.2 (F.keep b o e), F.above⟩
  have fresh : ∀ a, s.heap.objs.size ≤ a → h₀.get? a = none ∧ a ≠ L := fun a ha => by
    refine ⟨?_, Nat.ne_of_gt (Nat.lt_of_lt_of_le F.ns.lt ha)⟩
    cases q : h₀.get? a with
    | none => rfl
    | some o => exact absurd (Heap.lt_size (F.keep _ _ q)) (Nat.not_lt.mpr ha)
  -- the addresses
  have tsOf : ∀ (l : List Value) , (∀ v ∈ l, ∃ T : Addr, v = Value.ref T) → ∃ Ts : List Addr, l = Ts.map Value.ref := by
    intro l
    induction l with
    | nil => exact fun _ => ⟨[], rfl⟩
    | cons v r ih =>
      intro hl
      obtain ⟨T, rfl⟩ := hl v List.mem_cons_self
      obtain ⟨Ts, rfl⟩ := ih fun v hv => hl v (List.mem_cons_of_mem _ hv)
      exact ⟨T :: Ts, rfl⟩
  obtain ⟨Ts, hTs⟩ := tsOf acc.toList fun v hv => by
    obtain ⟨j, hj⟩ := List.getElem?_of_mem hv
    obtain ⟨T, _, _, e, _⟩ := P.2 j v (by simpa using hj)
    exact ⟨T, e⟩
  have hacc' : acc = (Ts.map Value.ref).toArray := by rw [← hTs]
  have hlen : Ts.length = xs.size := by rw [← P.1, hacc']; simp
  have at_ : ∀ j T, Ts[j]? = some T → ∃ x y, xs[j]? = some x ∧ ys[j]? = some y ∧ IsPair h' T x y ∧ s.heap.objs.size ≤ T := fun j T hT => by
    obtain ⟨T', x, y, e, hN, hx, hy, hp⟩ := P.2 j (.ref T) (by rw [hacc']; simpa using hT)
    cases e
    exact ⟨x, y, hx, hy, hp, hN⟩
  subst hacc'
  refine h _ c h' Ts F' (fun p hp => Heap.lt_size (N p hp).1) (fun T hT => ?_) hlen fun p hp => ?_
  · obtain ⟨j, hj⟩ := List.getElem?_of_mem hT
    obtain ⟨x, y, _, _, hp, hN⟩ := at_ j T hj
    exact Nat.lt_of_le_of_ne hN (pair_ne_list hp hacc rfl).symm
  · rcases List.mem_cons.mp hp with rfl | hp
    · exact ⟨hacc, (fresh _ (Nat.le_refl _)).2, (fresh _ (Nat.le_refl _)).1⟩
    · rcases List.mem_append.mp hp with hp | hp
      · obtain ⟨j, T, x, y, hT, hxy, rfl⟩ := pairLed_mem hp
        obtain ⟨x', y', hx, hy, hpair, hN⟩ := at_ j T hT
        obtain ⟨ex, ey⟩ := List.getElem?_zip_eq_some.mp hxy
        have q1 : x' = x := by
          have : xs[j]? = some x := by simpa using ex
          rw [hx] at this; exact Option.some.inj this
        have q2 : y' = y := by
          have : ys[j]? = some y := by simpa using ey
          rw [hy] at this; exact Option.some.inj this
        subst q1 q2
        exact ⟨hpair, (fresh _ hN).2, (fresh _ hN).1⟩
      · have n1 := oz.2.2 p hp
        exact ⟨hk _ _ (oz.2.2 p hp) (oTO.2.2 p hp) (o1.2.2 p hp) (o2.2.2 p hp) (N p hp).1, (N p hp).2⟩
end
end Mine
end

-- Comp3
section
open PySem PySem.W PySem.Calls PyProof.Rows
open Sem (wp)
set_option Elab.async false
set_option maxRecDepth 100000
set_option maxHeartbeats 8000000
namespace Mine
theorem off_Comp3 : True := by w_top off; trivial

/-! a list comprehension of two clauses: the outer without a test -/
theorem turn_outer (elt t0 i0 t1 i1 : Expr) (ifs : List Expr) (scope : Scope) (pos : Pos) (it acc : Value) (env : Env) :
    compTurn (.ListComp elt [⟨t0, i0, [], 0⟩, ⟨t1, i1, ifs, 0⟩] scope pos) 0 it acc env = (do
      standAt i0.pos
      match ← pyNext it with
      | none => pure (.done .next)
      | some v =>
        letOwnedTupleGo t0 it v
        assign t0 env v
        let x ← eval i1 env
        standAt i1.pos
        let x ← foldedSetIterable i1 env x
        let i ← holding [x] (pyIter x)
        let _ ← runOwn (.compStart (.ListComp elt [⟨t0, i0, [], 0⟩, ⟨t1, i1, ifs, 0⟩] scope pos) 1 i acc env) env
        again (.compLoop (.ListComp elt [⟨t0, i0, [], 0⟩, ⟨t1, i1, ifs, 0⟩] scope pos) 0 it acc env)) := by rfl
theorem turn_inner (elt t0 i0 t1 i1 : Expr) (ifs : List Expr) (scope : Scope) (pos : Pos) (it acc : Value) (env : Env) :
    compTurn (.ListComp elt [⟨t0, i0, [], 0⟩, ⟨t1, i1, ifs, 0⟩] scope pos) 1 it acc env = (do
      standAt i1.pos
      match ← pyNext it with
      | none => pure (.done .next)
      | some v =>
        letOwnedTupleGo t1 it v
        assign t1 env v
        let mut ok := true
        for c in ifs do
          if ok then ok ← isTrue c env (eval c env)
        if ok then
          (do let _ ← call (.builtin "list.append") [acc, ← eval elt env])
        again (.compLoop (.ListComp elt [⟨t0, i0, [], 0⟩, ⟨t1, i1, ifs, 0⟩] scope pos) 1 it acc env)) := by rfl

section
variable {prog : Program} {w : World} {A : Around} {R : Result → Shared → Prop} {s : Shared} {elt t0 i0 t1 i1 : Expr} {ifs : List Expr} {scope : Scope} {pos : Pos} {it acc : Value} {env : Env}

theorem loop_outer (I : Nat → Shared → Prop)
    (turn : ∀ n s, I n s → wpAny (model prog w) A (pyNext it) (fun r s₁ => match r with
      | none => R (.ok .next) s₁
      | some v => wpAny (model prog w) A (assign t0 env v) (fun _ s₂ => wpAny (model prog w) A (eval i1 env) (fun x s₃ => wpAny (model prog w) A (pyIter x) (fun it1 s₄ =>
          codeAny (model prog w) A (.compStart (.ListComp elt [⟨t0, i0, [], 0⟩, ⟨t1, i1, ifs, 0⟩] scope pos) 1 it1 acc env) (fun r s₅ => match r with | .ok _ => ∃ m, m < n ∧ I m s₅ | .error _ => False) s₄) (fun _ _ => False) s₃) (fun _ _ => False) s₂) (fun _ _ => False) s₁) (fun _ _ => False) s)
    (n : Nat) (h : I n s) (ht : ∀ v, letOwnedTupleGo t0 it v = pure () := by intro _; rfl) (hs : ∀ x, foldedSetIterable i1 env x = pure x := by intro _; rfl) :
    codeAny (model prog w) A (.compLoop (.ListComp elt [⟨t0, i0, [], 0⟩, ⟨t1, i1, ifs, 0⟩] scope pos) 0 it acc env) R s := by
  refine codeAny_loop rfl I (fun n s hI => ?_) n h
  show wpAny _ A ((compTurn _ 0 it acc env).onRaise (fun x => do noteFrame x env; theTreesLotGoes x)) _ _ s
  refine wpAny_noted ?_
  rw [turn_outer]
  refine wpAny_bind (wpAny_standAt (wpAny_bind (wpAny_mono (turn n s hI) (fun r s₁ h₁ => ?_) fun _ _ f => f.elim)))
  cases r with
  | none => exact wpAny_pure h₁
  | some v =>
    refine wpAny_bind (wpAny_of_eq (ht v) ?_)
    refine wpAny_bind (wpAny_mono h₁ (fun _ s₂ h₂ => ?_) fun _ _ f => f.elim)
    refine wpAny_bind (wpAny_mono h₂ (fun x s₃ h₃ => ?_) fun _ _ f => f.elim)
    refine wpAny_bind (wpAny_standAt (wpAny_bind (wpAny_of_eq (hs x) (wpAny_bind (wpAny_holding (wpAny_mono h₃ (fun it1 s₄ h₄ => ?_) fun _ _ f => f.elim))))))
    refine wpAny_bind (wpAny_runOwn (codeAny_mono h₄ fun r s₅ h₅ => ?_))
    cases r with
    | ok _ => exact wpAny_pure ⟨rfl, h₅⟩
    | error _ => exact h₅.elim

theorem loop_inner (I : Nat → Shared → Prop)
    (turn : ∀ n s, I n s → wpAny (model prog w) A (pyNext it) (fun r s₁ => match r with
      | none => R (.ok .next) s₁
      | some v => wpAny (model prog w) A (assign t1 env v) (fun _ s₂ =>
          wpAny (model prog w) A (forIn ifs true fun c r => if r = true then do let ok ← isTrue c env (eval c env); pure (ForInStep.yield ok) else pure (ForInStep.yield r)) (fun ok s₃ =>
            if ok = true then wpAny (model prog w) A (eval elt env) (fun x s₄ =>
              wpAny (model prog w) A (call (.builtin "list.append") [acc, x]) (fun _ s₅ => ∃ m, m < n ∧ I m s₅) (fun _ _ => False) s₄) (fun _ _ => False) s₃
            else ∃ m, m < n ∧ I m s₃) (fun _ _ => False) s₂) (fun _ _ => False) s₁) (fun _ _ => False) s)
    (n : Nat) (h : I n s) (ht : ∀ v, letOwnedTupleGo t1 it v = pure () := by intro _; rfl) :
    codeAny (model prog w) A (.compLoop (.ListComp elt [⟨t0, i0, [], 0⟩, ⟨t1, i1, ifs, 0⟩] scope pos) 1 it acc env) R s := by
  refine codeAny_loop rfl I (fun n s hI => ?_) n h
  show wpAny _ A ((compTurn _ 1 it acc env).onRaise (fun x => do noteFrame x env; theTreesLotGoes x)) _ _ s
  refine wpAny_noted ?_
  rw [turn_inner]
  refine wpAny_bind (wpAny_standAt (wpAny_bind (wpAny_mono (turn n s hI) (fun r s₁ h₁ => ?_) fun _ _ f => f.elim)))
  cases r with
  | none => exact wpAny_pure h₁
  | some v =>
    refine wpAny_bind (wpAny_of_eq (ht v) ?_)
    refine wpAny_bind (wpAny_mono h₁ (fun _ s₂ h₂ => wpAny_bind (wpAny_mono h₂ (fun ok s₃ h₃ => ?_) fun _ _ f => f.elim)) fun _ _ f => f.elim)
    cases ok with
    | false => exact wpAny_pure ⟨rfl, h₃⟩
    | true =>
      exact wpAny_bind (wpAny_bind (wpAny_mono h₃ (fun x s₄ h₄ => wpAny_bind (wpAny_mono h₄ (fun _ s₅ h₅ => wpAny_pure (wpAny_pure ⟨rfl, h₅⟩)) fun _ _ f => f.elim)) fun _ _ f => f.elim))

theorem start_inner
    (h0 : codeAny (model prog w) A (.compLoop (.ListComp elt [⟨t0, i0, [], 0⟩, ⟨t1, i1, ifs, 0⟩] scope pos) 1 it acc env) R s)
    (h : wpAny (model prog w) A (pyIter it) (fun it' s' => codeAny (model prog w) A (.compLoop (.ListComp elt [⟨t0, i0, [], 0⟩, ⟨t1, i1, ifs, 0⟩] scope pos) 1 it' acc env) R s') (fun _ _ => False) s) :
    codeAny (model prog w) A (.compStart (.ListComp elt [⟨t0, i0, [], 0⟩, ⟨t1, i1, ifs, 0⟩] scope pos) 1 it acc env) R s := by
  refine codeAny_of_tree ?_
  show wpAny _ _ ((compStart (.ListComp elt [⟨t0, i0, [], 0⟩, ⟨t1, i1, ifs, 0⟩] scope pos) 1 it acc env).onRaise (fun x => do noteFrame x env; standAt theWindowsPlace)) _ _ s
  refine wpAny_notedAt ?_
  unfold compStart
  show wpAny _ _ (ask >>= _) _ _ s
  refine wpAny_bind (wpAny_askSetting (wpAny_ite ?_))
  split
  · exact wpAny_bind (wpAny_pure (wpAny_pure (And.intro rfl h0)))
  · refine wpAny_bind (wpAny_rule ?_)
    show wpAny _ _ (standAt i1.pos >>= _) _ _ s
    exact wpAny_bind (wpAny_standAt (wpAny_bind (wpAny_mono h (fun it' s' h' => wpAny_pure (And.intro rfl h')) fun _ _ f => f.elim)))
end

/-- where a comprehension of two clauses stands: what it found (g), what it has of new (G), its own names (C), its list (D); hid: what it turns -/
structure InC (g G h : Heap) (C D : Addr) (m : Str → Option Value) (ys : Array Value) (hid : List Addr) : Prop where
  gG : Grow g G
  Gh : Grow G h
  ns : h.Ns C m
  acc : h.PlainList D ys
  off : ∀ a ∈ hid, G.get? a = none
  live : ∀ a ∈ hid, ∃ o, h.get? a = some o
  cd : C ≠ D
  hc : C ∈ hid
  hd : D ∈ hid

theorem InC.evald {g G h h' : Heap} {C D : Addr} {m : Str → Option Value} {ys : Array Value} {hid : List Addr} (x : InC g G h C D m ys hid) (k : Grow h h') : InC g (hideAll h' hid) h' C D m ys hid where
  gG := fun b o e => hideAll_get _ (k _ _ (x.Gh _ _ (x.gG _ _ e))) fun q => by have := x.off b q; rw [x.gG _ _ e] at this; cases this
  Gh := fun b o e => of_hideAll _ e
  ns := x.ns.keeps k
  acc := x.acc.at fun o e => k _ _ e
  off := fun a ha => hideAll_none _ ha
  live := fun a ha => let ⟨o, e⟩ := x.live a ha; ⟨o, k _ _ e⟩
  cd := x.cd
  hc := x.hc
  hd := x.hd
theorem InC.up {g G h h' : Heap} {C D : Addr} {m : Str → Option Value} {ys : Array Value} {hid : List Addr} (x : InC g G h C D m ys hid) (k : Grow h h') : Grow G (hideAll h' hid) :=
  fun b o e => hideAll_get _ (k _ _ (x.Gh _ _ e)) fun q => by have := x.off b q; rw [e] at this; cases this
theorem InC.grown {g G h h' : Heap} {C D : Addr} {m : Str → Option Value} {ys : Array Value} {hid : List Addr} (x : InC g G h C D m ys hid) (k : Grow h h') : InC g G h' C D m ys hid where
  gG := x.gG
  Gh := x.Gh.trans k
  ns := x.ns.keeps k
  acc := x.acc.at fun o e => k _ _ e
  off := x.off
  live := fun a ha => let ⟨o, e⟩ := x.live a ha; ⟨o, k _ _ e⟩
  cd := x.cd
  hc := x.hc
  hd := x.hd
theorem InC.not_hid {g G h : Heap} {C D a : Addr} {m : Str → Option Value} {ys : Array Value} {hid : List Addr} (x : InC g G h C D m ys hid) {o : Obj} (e : G.get? a = some o) : a ∉ hid := fun q => by
  have := x.off a q; rw [e] at this; cases this
theorem InC.fresh {g G h : Heap} {C D a : Addr} {m : Str → Option Value} {ys : Array Value} {hid : List Addr} (x : InC g G h C D m ys hid) (e : h.get? a = none) : a ∉ hid := fun q => by
  obtain ⟨_, q⟩ := x.live a q; rw [e] at q; cases q

section
variable {prog : Program} {w : World} {A : Around} {R : Result → Shared → Prop} {s : Shared} {elt t0 i0 i1 : Expr} {x1 : Str} {p1 : Pos} {ifs : List Expr} {scope : Scope} {pos : Pos} {cenv : Env}

/-- the inner loop's obligation at one item -/
def InStep (prog : Program) (w : World) (A : Around) (cenv : Env) (g : Heap) (D : Addr) (hid : List Addr) (x1 : Str) (ifs : List Expr) (elt : Expr) (items1 : Array Value) (Mp : (Str → Option Value) → Prop) (J2 : Nat → Heap → Array Value → Prop) : Prop :=
  ∀ (j : Nat) (v : Value) (s : Shared) (m : Str → Option Value) (G : Heap) (ys : Array Value) (hid' : List Addr), items1[j]? = some v → (∀ a ∈ hid, a ∈ hid') → InC g G s.heap cenv.locals D m ys hid' → Mp m → m x1 = some v → J2 j G ys →
    wpAny (model prog w) A (forIn ifs true fun c r => if r = true then do let ok ← isTrue c cenv (eval c cenv); pure (ForInStep.yield ok) else pure (ForInStep.yield r)) (fun ok s₃ => ∃ h₃ tk₃, s₃ = { s with heap := h₃, toks := tk₃ } ∧ Grow s.heap h₃ ∧
      if ok = true then wpAny (model prog w) A (eval elt cenv) (fun y s₄ => ∃ h₄ tk₄, s₄ = { s with heap := h₄, toks := tk₄ } ∧ Grow h₃ h₄ ∧ ∀ G', Grow G G' → (∀ a o, a ∉ hid' → h₄.get? a = some o → G'.get? a = some o) → J2 (j + 1) G' (ys.push y)) (fun _ _ => False) s₃
      else J2 (j + 1) G ys) (fun _ _ => False) s

theorem inner_loop {g : Heap} {D I1 a1 : Addr} {items1 : Array Value} {hid : List Addr} {Mp : (Str → Option Value) → Prop} {J2 : Nat → Heap → Array Value → Prop}
    (hh : A.handled = none) (hx1 : cenv.kindOf x1 = some .local) (hp : (cenv.scope.kind == .class || (cenv.scope.kind == .module && cenv.locals != cenv.globals)) = false)
    (hsz : ∀ j G ys, J2 j G ys → ys.size ≤ sizeLine) (hM : ∀ m v, Mp m → Mp (fun y => if y = x1 then some v else m y))
    (step : InStep prog w A cenv g D hid x1 ifs elt items1 Mp J2)
    {G : Heap} {m : Str → Option Value} {ys : Array Value} (hIh : I1 ∉ hid) (hcC : cenv.locals ∈ hid) (hcD : D ∈ hid) (st : InC g G s.heap cenv.locals D m ys (I1 :: hid)) (hit : s.heap.IsListIter I1 a1 0) (hl : G.IsList a1 items1) (hm : Mp m) (hJ : J2 0 G ys)
    (done : ∀ h' tk m G ys, InC g G h' cenv.locals D m ys hid → Mp m → J2 items1.size G ys → (∀ b o, b ≠ I1 → b ≠ cenv.locals → b ≠ D → s.heap.get? b = some o → h'.get? b = some o) → R (.ok .next) { s with heap := h', toks := tk }) :
    codeAny (model prog w) A (.compLoop (.ListComp elt [⟨t0, i0, [], 0⟩, ⟨.Name x1 p1, i1, ifs, 0⟩] scope pos) 1 (.ref I1) (.ref D) cenv) R s := by
  have hI : I1 ≠ cenv.locals := fun q => hIh (q ▸ hcC)
  have hID : I1 ≠ D := fun q => hIh (q ▸ hcD)
  refine loop_inner
    (fun k s' => ∃ h tk m ys G j, s' = { s with heap := h, toks := tk } ∧ InC g G h cenv.locals D m ys (I1 :: hid) ∧ h.IsListIter I1 a1 j ∧ G.IsList a1 items1 ∧ Mp m ∧ J2 j G ys ∧ j ≤ items1.size ∧ k = items1.size + 1 - j ∧
      (∀ b o, b ≠ I1 → b ≠ cenv.locals → b ≠ D → s.heap.get? b = some o → h.get? b = some o)) ?_ (items1.size + 1)
    ⟨s.heap, s.toks, m, ys, G, 0, rfl, st, hit, hl, hm, hJ, Nat.zero_le _, rfl, fun _ _ _ _ _ e => e⟩
  rintro k s' ⟨h, tk, m, ys, G, j, rfl, st, hit, hl, hm, hJ, hj, rfl, hk⟩
  have a1n : a1 ≠ I1 := fun q => by
    obtain ⟨o, e, _⟩ := hl
    exact (st.not_hid e) (q ▸ List.mem_cons_self)
  have off1 : ∀ b o, G.get? b = some o → b ≠ I1 := fun b o e q => (st.not_hid e) (q ▸ List.mem_cons_self)
  have hlh : h.IsList a1 items1 := hl.at fun o e => st.Gh _ _ e
  cases hv : items1[j]? with
  | none =>
    refine wpAny_pyNext_list_end hh hit hlh hv fun h₁ he₁ => ?_
    have hje : j = items1.size := by
      have := Array.getElem?_eq_none_iff.mp hv
      omega
    subst hje
    refine done h₁ tk m G ys ⟨st.gG, fun b o e => he₁ _ _ (off1 b o e) (st.Gh _ _ e), st.ns.extBut he₁ hI.symm, st.acc.extBut he₁ hID.symm, fun a ha => st.off a (List.mem_cons_of_mem _ ha), fun a ha => ?_, st.cd, hcC, hcD⟩ hm hJ fun b o b1 b2 b3 e => he₁ _ _ b1 (hk b o b1 b2 b3 e)
    obtain ⟨o, e⟩ := st.live a (List.mem_cons_of_mem _ ha)
    exact ⟨o, he₁ _ _ (fun q => hIh (q ▸ ha)) e⟩
  | some v =>
    have hlt : j < items1.size := (Array.getElem?_eq_some_iff.mp hv).1
    refine wpAny_pyNext_list_item hit hlh hv fun h₁ hit₁ hs₁ => ?_
    refine wpAny_assign_Name (wpAny_storeName_local hx1 (st.ns.sameBut hs₁ hI.symm) (fun h₂ hn₂ hs₂ => ?_) hp)
    have offC : ∀ b o, G.get? b = some o → b ≠ cenv.locals := fun b o e q => (st.not_hid e) (q ▸ st.hc)
    have offD : ∀ b o, G.get? b = some o → b ≠ D := fun b o e q => (st.not_hid e) (q ▸ st.hd)
    have st₂ : InC g G h₂ cenv.locals D (fun y => if y = x1 then some v else m y) ys (I1 :: hid) := by
      refine ⟨st.gG, fun b o e => hs₂.extBut _ _ (offC b o e) (hs₁.extBut _ _ (off1 b o e) (st.Gh _ _ e)), hn₂, (st.acc.extBut hs₁.extBut hID.symm).extBut hs₂.extBut st.cd.symm, st.off, fun a ha => ?_, st.cd, st.hc, st.hd⟩
      by_cases qC : a = cenv.locals
      · obtain ⟨o, _, _, ho, _⟩ := hn₂
        exact ⟨o, qC ▸ ho⟩
      · by_cases qI : a = I1
        · obtain ⟨o, ho, _⟩ := hit₁
          exact ⟨o, hs₂.extBut _ _ qC (qI ▸ ho)⟩
        · obtain ⟨o, e⟩ := st.live a ha
          exact ⟨o, hs₂.extBut _ _ qC (hs₁.extBut _ _ qI e)⟩
    have hit₂ : h₂.IsListIter I1 a1 (j + 1) := hit₁.extBut hs₂.extBut hI
    have hk₂ : ∀ b o, b ≠ I1 → b ≠ cenv.locals → b ≠ D → s.heap.get? b = some o → h₂.get? b = some o := fun b o b1 b2 b3 e => hs₂.extBut _ _ b2 (hs₁.extBut _ _ b1 (hk b o b1 b2 b3 e))
    refine wpAny_mono (step j v _ _ G ys (I1 :: hid) hv (fun a ha => List.mem_cons_of_mem _ ha) st₂ (hM m v hm) (by simp) hJ) (fun ok s₃ h₃ => ?_) fun _ _ f => f
    obtain ⟨h₃, tk₃, rfl, k₃, rest⟩ := h₃
    dsimp only at k₃
    have st₃ := st₂.grown k₃
    have hit₃ : h₃.IsListIter I1 a1 (j + 1) := hit₂.at fun o e => k₃ _ _ e
    have hk₃ : ∀ b o, b ≠ I1 → b ≠ cenv.locals → b ≠ D → s.heap.get? b = some o → h₃.get? b = some o := fun b o b1 b2 b3 e => k₃ _ _ (hk₂ b o b1 b2 b3 e)
    cases ok with
    | false =>
      simp only [Bool.false_eq_true, if_false] at rest ⊢
      exact ⟨items1.size + 1 - (j + 1), by omega, h₃, tk₃, _, ys, G, j + 1, rfl, st₃, hit₃, hl, hM m v hm, rest, hlt, rfl, hk₃⟩
    | true =>
      simp only [if_true] at rest ⊢
      refine wpAny_mono rest (fun y s₄ h₄ => ?_) fun _ _ f => f
      obtain ⟨h₄, tk₄, rfl, k₄, hJ₄⟩ := h₄
      have st₄ := st₃.evald k₄
      have up₄ : Grow G (hideAll h₄ (I1 :: hid)) := st₃.up k₄
      refine wpAny_list_append_plain (hsz := hsz _ _ _ hJ) st₄.acc fun h₅ hl₅ hs₅ => ?_
      dsimp only at hl₅ hs₅ ⊢
      have offD₄ : ∀ b o, (hideAll h₄ (I1 :: hid)).get? b = some o → b ≠ D := fun b o e q => (st₄.not_hid e) (q ▸ st₄.hd)
      refine ⟨items1.size + 1 - (j + 1), by omega, h₅, tk₄, _, ys.push y, hideAll h₄ (I1 :: hid), j + 1, rfl, ⟨st₄.gG, fun b o e => hs₅.extBut _ _ (offD₄ b o e) (st₄.Gh _ _ e), st₄.ns.sameBut hs₅ st.cd, hl₅, st₄.off, fun a ha => ?_, st.cd, st.hc, st.hd⟩,
        (hit₃.at fun o e => k₄ _ _ e).extBut hs₅.extBut hID, hl.at fun o e => up₄ _ _ e, hM m v hm, hJ₄ _ up₄ fun a o ha e => hideAll_get _ e ha, hlt, rfl, fun b o b1 b2 b3 e => hs₅.extBut _ _ b3 (k₄ _ _ (hk₃ b o b1 b2 b3 e))⟩
      by_cases qD : a = D
      · obtain ⟨n, e⟩ := hl₅
        exact ⟨_, qD ▸ e⟩
      · obtain ⟨o, e⟩ := st₄.live a ha
        exact ⟨o, hs₅.extBut _ _ qD e⟩
end

/-- the outer loop's obligation at one item -/
def OutStep (prog : Program) (w : World) (A : Around) (cenv : Env) (g : Heap) (D : Addr) (hid : List Addr) (x0 x1 : Str) (i1 : Expr) (ifs : List Expr) (elt : Expr) (n : Nat) (P : Nat → Value → Prop) (J : Nat → Heap → Array Value → Prop) : Prop :=
  ∀ (i : Nat) (v : Value) (s : Shared) (m : Str → Option Value) (G : Heap) (ys : Array Value), i < n → P i v → InC g G s.heap cenv.locals D m ys hid → m x0 = some v → J i G ys →
    wpAny (model prog w) A (eval i1 cenv) (fun x s₃ => ∃ h₃ tk₃, s₃ = { s with heap := h₃, toks := tk₃ } ∧ Grow s.heap h₃ ∧ ∃ a1 items1 J2, x = .ref a1 ∧ h₃.IsList a1 items1 ∧ a1 ∉ hid ∧
      (∀ j G ys, J2 j G ys → ys.size ≤ sizeLine) ∧
      (∀ G', Grow G G' → (∀ a o, a ∉ hid → h₃.get? a = some o → G'.get? a = some o) → J2 0 G' ys) ∧
      (∀ G ys, J2 items1.size G ys → J (i + 1) G ys) ∧
      InStep prog w A cenv g D hid x1 ifs elt items1 (fun m => m x0 = some v) J2) (fun _ _ => False) s

section
variable {prog : Program} {w : World} {A : Around} {R : Result → Shared → Prop} {s : Shared} {elt i0 i1 : Expr} {x0 x1 : Str} {p0 p1 : Pos} {ifs : List Expr} {scope : Scope} {pos : Pos} {cenv : Env}

theorem outer_loop {g : Heap} {D I : Addr} {fp wr : List Addr} {n : Nat} {P : Nat → Value → Prop} {St : Nat → Heap → Prop} {J : Nat → Heap → Array Value → Prop}
    (W : Walks prog w A I fp wr n P St) (hlive : ∀ i h, St i h → ∀ b ∈ wr, ∃ o, h.get? b = some o)
    (hh : A.handled = none) (hx0 : cenv.kindOf x0 = some .local) (hx1 : cenv.kindOf x1 = some .local) (h01 : x0 ≠ x1) (hp : (cenv.scope.kind == .class || (cenv.scope.kind == .module && cenv.locals != cenv.globals)) = false)
    (hCf : cenv.locals ∉ fp) (hDf : D ∉ fp) (step : OutStep prog w A cenv g D (cenv.locals :: D :: wr) x0 x1 i1 ifs elt n P J) (hs : ∀ x, foldedSetIterable i1 cenv x = pure x)
    {m : Str → Option Value} {ys : Array Value} {G : Heap} (st : InC g G s.heap cenv.locals D m ys (cenv.locals :: D :: wr)) (hst : St 0 s.heap) (hJ : J 0 G ys)
    (done : ∀ h' tk m G ys, Grow g G → Grow G h' → h'.Ns cenv.locals m → h'.PlainList D ys → G.get? cenv.locals = none → G.get? D = none → J n G ys → (∀ b o, b ≠ cenv.locals → b ≠ D → b ∉ wr → s.heap.get? b = some o → h'.get? b = some o) → R (.ok .next) { s with heap := h', toks := tk }) :
    codeAny (model prog w) A (.compLoop (.ListComp elt [⟨.Name x0 p0, i0, [], 0⟩, ⟨.Name x1 p1, i1, ifs, 0⟩] scope pos) 0 (.ref I) (.ref D) cenv) R s := by
  have hCw : cenv.locals ∉ wr := fun q => hCf (W.sub _ q)
  have hDw : D ∉ wr := fun q => hDf (W.sub _ q)
  have hCD := st.cd
  refine loop_outer (ht := by intro _; rfl) (hs := hs)
    (fun k s' => ∃ h tk m ys G i, s' = { s with heap := h, toks := tk } ∧ InC g G h cenv.locals D m ys (cenv.locals :: D :: wr) ∧ St i h ∧ J i G ys ∧ i ≤ n ∧ k = n + 1 - i ∧
      (∀ b o, b ≠ cenv.locals → b ≠ D → b ∉ wr → s.heap.get? b = some o → h.get? b = some o)) ?_ (n + 1)
    ⟨s.heap, s.toks, m, ys, G, 0, rfl, st, hst, hJ, Nat.zero_le _, rfl, fun _ _ _ _ _ e => e⟩
  rintro k s' ⟨h, tk, m, ys, G, i, rfl, st, hst, hJ, hi, rfl, hk⟩
  have offW : ∀ b o, G.get? b = some o → b ∉ wr := fun b o e q => (st.not_hid e) (List.mem_cons_of_mem _ (List.mem_cons_of_mem _ q))
  have offC : ∀ b o, G.get? b = some o → b ≠ cenv.locals := fun b o e q => (st.not_hid e) (q ▸ st.hc)
  have offD : ∀ b o, G.get? b = some o → b ≠ D := fun b o e q => (st.not_hid e) (q ▸ st.hd)
  by_cases hlt : i < n
  · refine W.item i _ _ _ hlt hst fun v h₁ tk₁ hP hst₁ hk₁ => ?_
    refine wpAny_assign_Name (wpAny_storeName_local hx0 (st.ns.at' fun o e => hk₁ _ _ hCw e) (fun h₂ hn₂ hs₂ => ?_) hp)
    have hst₂ : St (i + 1) h₂ := W.frame _ _ _ hst₁ fun b hb o e => hs₂.extBut _ _ (fun q => hCf (q ▸ hb)) e
    have st₂ : InC g G h₂ cenv.locals D (fun y => if y = x0 then some v else m y) ys (cenv.locals :: D :: wr) := by
      refine ⟨st.gG, fun b o e => hs₂.extBut _ _ (offC b o e) (hk₁ _ _ (offW b o e) (st.Gh _ _ e)), hn₂, (st.acc.at fun o e => hk₁ _ _ hDw e).extBut hs₂.extBut hCD.symm, st.off, fun a ha => ?_, st.cd, st.hc, st.hd⟩
      by_cases qC : a = cenv.locals
      · obtain ⟨o, _, _, ho, _⟩ := hn₂
        exact ⟨o, qC ▸ ho⟩
      · by_cases qW : a ∈ wr
        · obtain ⟨o, e⟩ := hlive _ _ hst₂ a qW
          exact ⟨o, e⟩
        · obtain ⟨o, e⟩ := st.live a ha
          exact ⟨o, hs₂.extBut _ _ qC (hk₁ _ _ qW e)⟩
    refine wpAny_mono (step i v _ _ G ys hlt hP st₂ (by simp) hJ) (fun x s₃ h₃ => ?_) fun _ _ f => f
    obtain ⟨h₃, tk₃, rfl, k₃, a1, items1, J2, rfl, hl1, ha1, hsz2, hJ2, hend, hin⟩ := h₃
    dsimp only at k₃
    have st₃ := st₂.evald k₃
    have up₃ := st₂.up k₃
    refine wpAny_pyIter_list hl1 ?_
    dsimp only
    generalize hH4 : h₃.push { cls := .type "list_iterator", data := .fields #[.ref a1, .int 0 0] } = h₄
    have old₄ : ∀ b o, h₃.get? b = some o → h₄.get? b = some o := fun b o e => hH4 ▸ Heap.get?_push_of_some _ e
    have hit₄ : h₄.IsListIter h₃.objs.size a1 0 := ⟨_, hH4 ▸ Heap.get?_push_size _ rfl, rfl, rfl⟩
    have fresh : ∀ b o, h₃.get? b = some o → b ≠ h₃.objs.size := fun b o e => Nat.ne_of_lt (Heap.lt_size e)
    have hIh : h₃.objs.size ∉ cenv.locals :: D :: wr := fun q => by
      obtain ⟨o, e⟩ := st₃.live _ q
      exact fresh _ _ e rfl
    have st₄ : InC g (hideAll h₃ (cenv.locals :: D :: wr)) h₄ cenv.locals D (fun y => if y = x0 then some v else m y) ys (h₃.objs.size :: cenv.locals :: D :: wr) := by
      refine ⟨st₃.gG, fun b o e => old₄ _ _ (st₃.Gh _ _ e), st₃.ns.keeps old₄, st₃.acc.at fun o e => old₄ _ _ e, fun a ha => ?_, fun a ha => ?_, st₃.cd, List.mem_cons_of_mem _ st₃.hc, List.mem_cons_of_mem _ st₃.hd⟩
      · rcases List.mem_cons.mp ha with rfl | ha
        · cases q : (hideAll h₃ (cenv.locals :: D :: wr)).get? h₃.objs.size with
          | none => rfl
          | some o => exact absurd rfl (fresh _ _ (st₃.Gh _ _ q))
        · exact st₃.off a ha
      · rcases List.mem_cons.mp ha with rfl | ha
        · exact ⟨_, hH4 ▸ Heap.get?_push_size _ rfl⟩
        · obtain ⟨o, e⟩ := st₃.live a ha
          exact ⟨o, old₄ _ _ e⟩
    have loop : ∀ s₄ : Shared, s₄ = { s with heap := h₄, toks := tk₃ } → codeAny (model prog w) A (.compLoop (.ListComp elt [⟨.Name x0 p0, i0, [], 0⟩, ⟨.Name x1 p1, i1, ifs, 0⟩] scope pos) 1 (.ref h₃.objs.size) (.ref D) cenv)
        (fun r s₅ => match r with | .ok _ => ∃ m', m' < n + 1 - i ∧ ∃ h tk m ys G i, s₅ = { s with heap := h, toks := tk } ∧ InC g G h cenv.locals D m ys (cenv.locals :: D :: wr) ∧ St i h ∧ J i G ys ∧ i ≤ n ∧ m' = n + 1 - i ∧
          (∀ b o, b ≠ cenv.locals → b ≠ D → b ∉ wr → s.heap.get? b = some o → h.get? b = some o) | .error _ => False) s₄ := by
      rintro s₄ rfl
      refine inner_loop hh hx1 hp hsz2 (fun m v' hm => ?_) hin hIh st.hc st.hd st₄ hit₄ ?_ (by simp) (hJ2 _ up₃ fun a o ha e => hideAll_get _ e ha) fun h' tk' m' G' ys' st' _ hJ' hk' => ?_
      · show (if x0 = x1 then some v' else m x0) = some v
        rw [if_neg h01]; exact hm
      · exact hl1.at fun o e => hideAll_get _ e ha1
      · refine ⟨n + 1 - (i + 1), by omega, h', tk', m', ys', G', i + 1, rfl, st', ?_, hend _ _ hJ', hlt, rfl, fun b o b1 b2 b3 e => ?_⟩
        · exact W.frame _ _ _ hst₂ fun b hb o e => hk' _ _ (fresh _ _ (k₃ _ _ e)) (fun q => hCf (q ▸ hb)) (fun q => hDf (q ▸ hb)) (old₄ _ _ (k₃ _ _ e))
        · have e₃ := k₃ _ _ (hs₂.extBut _ _ b1 (hk₁ _ _ b3 (hk b o b1 b2 b3 e)))
          exact hk' _ _ (fresh _ _ e₃) b1 b2 (old₄ _ _ e₃)
    exact start_inner (loop _ rfl) (wpAny_pyIter_listiter hit₄ (loop _ rfl))
  · have hin : i = n := by omega
    subst hin
    refine W.done _ _ _ hst fun h₁ tk₁ hk₁ => ?_
    exact done h₁ tk₁ m G ys st.gG (fun b o e => hk₁ _ _ (offW b o e) (st.Gh _ _ e)) (st.ns.at' fun o e => hk₁ _ _ hCw e) (st.acc.at fun o e => hk₁ _ _ hDw e) (st.off _ st.hc) (st.off _ st.hd) hJ fun b o b1 b2 b3 e => hk₁ _ _ b3 (hk b o b1 b2 b3 e)
end

section
variable {prog : Program} {w : World} {A : Around} {E : Value → Shared → Prop} {s : Shared} {elt i0 i1 : Expr} {x0 x1 : Str} {p0 p1 : Pos} {ifs : List Expr} {scope : Scope} {cl : List (Str × Addr)} {pos : Pos} {env : Env} {Q : Value → Shared → Prop}

/-- a list comprehension of two clauses -/
theorem ListComp2 (hh : A.handled = none) (hclos : closureFor scope env = pure cl) (hcell : ∀ y ∈ scope.names, y.2 ≠ .cell) (hkind : scope.kind = .function) (hnames : ∀ y ∈ scope.names, y.2 = .local → scope.names.lookup y.1 = some .local)
    (hx0 : scope.names.lookup x0 = some .local) (hx1 : scope.names.lookup x1 = some .local) (h01 : x0 ≠ x1)
    (h : wpAny (model prog w) A (eval i0 env) (fun xv s₁ => wpAny (model prog w) A (pyIter xv) (fun it s₂ => ∃ I fp wr n P St g J, it = .ref I ∧ Walks prog w A I fp wr n P St ∧ (∀ i h, St i h → ∀ b ∈ wr, ∃ o, h.get? b = some o) ∧ St 0 s₂.heap ∧
      (∀ b ∈ fp, b < s₂.heap.objs.size) ∧ Grow g s₂.heap ∧ (∀ b ∈ wr, g.get? b = none) ∧ J 0 g #[] ∧
      (∀ C D, s₂.heap.get? C = none → s₂.heap.get? D = none → OutStep prog w A (compEnvC scope cl C env) g D (C :: D :: wr) x0 x1 i1 ifs elt n P J) ∧
      (∀ D h' tk ys G, s₂.heap.get? D = none → Grow g G → Grow G h' → h'.PlainList D ys → G.get? D = none → J n G ys → (∀ b o, b ∉ wr → s₂.heap.get? b = some o → h'.get? b = some o) → Q (.ref D) { s₂ with heap := h', toks := tk })) E s₁) E s)
    (hs0 : ∀ x, foldedSetIterable i0 env x = pure x := by intro _; rfl) (hs1 : ∀ cenv x, foldedSetIterable i1 cenv x = pure x := by intro _ _; rfl) :
    wpAny (model prog w) A (eval (.ListComp elt [⟨.Name x0 p0, i0, [], 0⟩, ⟨.Name x1 p1, i1, ifs, 0⟩] scope pos) env) Q E s := by
  rw [eval_ListComp]
  refine wpAny_comprehension_free (use := none) rfl hs0 hclos hkind hnames (wpAny_mono h (fun xv s₁ h₁ => wpAny_mono h₁ (fun it s₂ h₂ => ?_) fun _ _ e => e) fun _ _ e => e)
  obtain ⟨I, fp, wr, n, P, St, g, J, rfl, W, hlive, hst, hfp, hg, hgw, hJ, hstep, hQ⟩ := h₂
  refine wpAny_newObj_type (wpAny_newFunctionEnv hcell (by intro y hy; simp at hy) (fun h₁ hns₁ hsb₁ => ?_) hkind)
  dsimp only at hns₁ hsb₁ ⊢
  generalize hH2 : s₂.heap.push { cls := .type "list", dict := none, data := .seq ([] : List Value).toArray } = H2 at hns₁ hsb₁ ⊢
  have hC : H2.objs.size = s₂.heap.objs.size + 1 := by rw [← hH2, Heap.size_push]
  have hDC : s₂.heap.objs.size ≠ H2.objs.size := by rw [hC]; exact Nat.ne_of_lt (Nat.lt_succ_self _)
  have below : ∀ b, b < s₂.heap.objs.size → b ≠ H2.objs.size ∧ b ≠ s₂.heap.objs.size := fun b hb => ⟨by rw [hC]; exact Nat.ne_of_lt (Nat.lt_succ_of_lt hb), Nat.ne_of_lt hb⟩
  have hDf : s₂.heap.objs.size ∉ fp := fun hm => Nat.lt_irrefl _ (hfp _ hm)
  have hCf : H2.objs.size ∉ fp := fun hm => by have := hfp _ hm; rw [hC] at this; exact Nat.lt_irrefl _ (Nat.lt_of_succ_lt this)
  have old : ∀ b o, s₂.heap.get? b = some o → h₁.get? b = some o := fun b o e => hsb₁.extBut b o (below b (Heap.lt_size e)).1 (Heap.get?_push_of_some _ (hH2 ▸ Heap.get?_push_of_some _ e))
  have hacc : h₁.PlainList s₂.heap.objs.size #[] := ⟨_, hsb₁.extBut _ _ hDC (Heap.get?_push_of_some _ (hH2 ▸ Heap.get?_push_size _ rfl))⟩
  have hst₁ : St 0 h₁ := W.frame _ _ _ hst fun b _ o e => old b o e
  have fresh : ∀ a, s₂.heap.objs.size ≤ a → s₂.heap.get? a = none := fun a ha => by
    cases e : s₂.heap.get? a with
    | none => rfl
    | some o' => exact absurd (Heap.lt_size e) (Nat.not_lt.mpr ha)
  have fD := fresh s₂.heap.objs.size (Nat.le_refl _)
  have fC := fresh H2.objs.size (by rw [hC]; exact Nat.le_succ _)
  have gno : ∀ a, s₂.heap.get? a = none → g.get? a = none := fun a ha => by
    cases e : g.get? a with
    | none => rfl
    | some o => rw [hg _ _ e] at ha; cases ha
  have loop : ∀ s₃ : Shared, s₃ = { s₂ with heap := h₁, toks := s₂.toks + ([] : List (Str × Value)).length } →
      codeAny (model prog w) A (.compLoop (.ListComp elt [⟨.Name x0 p0, i0, [], 0⟩, ⟨.Name x1 p1, i1, ifs, 0⟩] scope pos) 0 (.ref I) (.ref s₂.heap.objs.size) (compEnvC scope cl H2.objs.size env))
        (compPost (model prog w) A E none Q (.ref s₂.heap.objs.size) H2.objs.size) s₃ := by
    rintro s₃ rfl
    refine outer_loop (g := g) (cenv := compEnvC scope cl H2.objs.size env) W hlive hh (lookup_relabel_local hx0) (lookup_relabel_local hx1) h01 (by simp [compEnvC, relabel, hkind]) hCf hDf (hstep _ _ fC fD) (hs1 _)
      (G := g) (ys := #[]) ⟨Grow.refl _, fun b o e => old _ _ (hg _ _ e), hns₁, hacc, fun a ha => ?_, fun a ha => ?_, hDC.symm, by simp [compEnvC], by simp⟩ hst₁ hJ fun h' tk m G ys gG Gh ns acc gC gD hJn hk => ?_
    · rcases List.mem_cons.mp ha with rfl | ha
      · exact gno _ fC
      · rcases List.mem_cons.mp ha with rfl | ha
        · exact gno _ fD
        · exact hgw a ha
    · rcases List.mem_cons.mp ha with rfl | ha
      · obtain ⟨o, _, _, e, _⟩ := hns₁
        exact ⟨o, e⟩
      · rcases List.mem_cons.mp ha with rfl | ha
        · obtain ⟨_, e⟩ := hacc
          exact ⟨_, e⟩
        · exact hlive _ _ hst₁ a ha
    · refine ⟨m, ns, fun h'' hs'' => hQ _ h'' tk ys G fD gG (fun b o e => hs''.extBut _ _ (fun q => ?_) (Gh _ _ e)) (acc.extBut hs''.extBut hDC) gD hJn fun b o hb e => ?_⟩
      · rw [q] at e
        have : G.get? H2.objs.size = none := gC
        rw [this] at e; cases e
      · have nb := below b (Heap.lt_size e)
        exact hs''.extBut _ _ nb.1 (hk b o nb.1 nb.2 hb (old _ _ e))
  exact codeAny_compStart_list (loop _ rfl) (W.self 0 _ _ _ hst₁ (loop _ rfl))
end
end Mine
end

-- AgT
section
open PySem PySem.W PySem.Calls PyProof.Rows
set_option Elab.async false
set_option maxRecDepth 100000
set_option maxHeartbeats 1000000
namespace Mine
theorem off_AgT : True := by w_top off; trivial

theorem name_loc {M : Model} {A : Around} {E : Value → Shared → Prop} {s : Shared} {env : Env} {mc : Str → Option Value} {x : Str} {pos : Pos} {v : Value} {Q : Value → Shared → Prop} (hn : s.heap.Ns env.locals mc) (hv : mc x = some v) (hk : env.scope.kind = .function) (hx : env.kindOf x = some .local) (h : Q v s)
    (hb : (x == ("__debug__" : Str)) = false := by decide) : wpAny M A (eval (.Name x pos) env) Q E s := wpAny_Name (wpAny_loadName_local hk hx hn hv h) hb
theorem name_cel {M : Model} {A : Around} {E : Value → Shared → Prop} {s : Shared} {env : Env} {x : Str} {pos : Pos} {v : Value} {Q : Value → Shared → Prop} {h₀ : Heap} {L c : Addr} {news : List (Addr × Obj)} {o : Obj} (N : News h₀ L s.heap news) (hm : (c, o) ∈ news) (hd : o.data = .cell (some v)) (hc : env.cells.lookup x = some c)
    (hk : env.scope.kind = .function) (hx : env.kindOf x = some .cell) (h : Q v s)
    (hb : (x == ("__debug__" : Str)) = false := by decide) : wpAny M A (eval (.Name x pos) env) Q E s := wpAny_Name (wpAny_loadName_cell hk hx hc ⟨o, N.get hm, hd⟩ h) hb

local macro_rules | `(tactic| k_room) => `(tactic| ktr_room)
local macro_rules | `(tactic| k_units) => `(tactic| ktr_units)
theorem cmpI_bd (x y : Int) : -1 ≤ cmpI x y ∧ cmpI x y ≤ 1 := by
  unfold cmpI
  (repeat' split) <;> omega

theorem ag_test (w : World) (p : Program) (loose : List Str) (mean : ExcName → Option Value) (mg mb : Str → Option Value)
    {dp un : Nat} {gd : Option (List Code)} {cn : Str} {cs : Scope} {ca : Addr} {ccd : Value} {cl : List (Str × Addr)} {outer : List Env} {A₀ : Around} {base g : Heap} {L : Addr} {m mc : Str → Option Value} {s : Shared} {Q : Bool → Shared → Prop} {E : Value → Shared → Prop} {cenv : Env}
    {p1 p3 p4 p6 p8 p9 p11 p12 p13 : Pos} {whole : Sem Value} {c1 c2 lo hi a b d1 l1 q1 d2 l2 q2 : Addr} {k1 k2 k3 k4 k5 k6 t1 t2 t3 t4 : Tok} {o1 o2 : Obj} {x0 x1 y0 y1 : Int} {led : List (Addr × Obj)}
    (B : Below A₀ base outer g) (F : Fr g L s.heap m) (X : (Mine.hd.heap_39 w.params).In g) (T : Top p loose mean mg mb g) (hk : cs.kind = .function) (hd : dp + 2 < recursionLimit) (hu : un + 8 * 2 < cLine)
    (N : News g L s.heap led) (m1 : (c1, o1) ∈ led) (m2 : (c2, o2) ∈ led) (e1 : o1.data = .cell (some (.ref lo))) (e2 : o2.data = .cell (some (.ref hi)))
    (n1 : ∀ q ∈ (a, twoObj x0 x1 t1 t2) :: (b, twoObj y0 y1 t3 t4) :: tcObjs w lo d1 l1 q1 k1 k2 k3 0, q ∈ led) (n2 : ∀ q ∈ (a, twoObj x0 x1 t1 t2) :: (b, twoObj y0 y1 t3 t4) :: tcObjs w hi d2 l2 q2 k4 k5 k6 1, q ∈ led)
    (nc : s.heap.Ns cenv.locals mc) (ml : mc "left" = some (.ref a)) (mr : mc "right" = some (.ref b)) (hck : cenv.scope.kind = .function) (kl : cenv.kindOf "left" = some .local) (kr : cenv.kindOf "right" = some .local) (klo : cenv.kindOf "low" = some .cell) (khi : cenv.kindOf "high" = some .cell)
    (clo : cenv.cells.lookup (Str.ofString "low") = some c1) (chi : cenv.cells.lookup (Str.ofString "high") = some c2)
    (hQ : ∀ h' tk', Grow s.heap h' → Q (decide (cmpI x0 y0 * cmpI x1 y1 < 0)) { s with heap := h', toks := tk' }) :
    wpAny (model PR w) (ktrTop dp un gd cn cs L ca ccd cl outer) (isTrue (.Compare (.BinOp (.Call (.Attribute (.Name "low" p1) "compare" ⟨73, 54, 73, 65⟩) [.Name "left" p3, .Name "right" p4] [] ⟨73, 54, 73, 78⟩) .Mult (.Call (.Attribute (.Name "high" p6) "compare" ⟨73, 81, 73, 93⟩) [.Name "left" p8, .Name "right" p9] [] ⟨73, 81, 73, 106⟩) p11) [.Lt] [.Constant (.int 0) 0 p12] p13) cenv whole) Q E s := by
  have fill : Fill PySem.Challenge.rw_gm0005_01 Mine.hd.heap_39 := by k_fill; trivial
  clear fill
  have N1 : News g L s.heap ((a, twoObj x0 x1 t1 t2) :: (b, twoObj y0 y1 t3 t4) :: tcObjs w lo d1 l1 q1 k1 k2 k3 0) := fun q hq => N q (n1 q hq)
  refine wpAny_isTrue_Compare1 ?_
  refine wpAny_BinOp ?_
  refine MethodCall_ ?_
  refine name_cel N m1 e1 clo hck klo ?_
  walk1
  walk1
  walk1
  refine name_loc nc ml hck kl ?_
  walk1
  refine name_loc nc mr hck kr ?_
  walk1
  walk1
  refine Ctr.use B F X N T (compare_0 w p loose mean mg mb lo d1 l1 q1 a b k1 k2 k3 t1 t2 t3 t4 x0 x1 y0 y1) hk hd hu N1 fun v h1 tk1 F1 NN1 g1 r1 => ?_
  obtain ⟨u1, rfl⟩ := r1
  have nc1 : h1.Ns cenv.locals mc := nc.keeps g1
  have N2 : News g L h1 ((a, twoObj x0 x1 t1 t2) :: (b, twoObj y0 y1 t3 t4) :: tcObjs w hi d2 l2 q2 k4 k5 k6 1) := fun q hq => NN1 q (n2 q hq)
  clear N1
  refine MethodCall_ ?_
  refine name_cel NN1 m2 e2 chi hck khi ?_
  walk1
  walk1
  walk1
  refine name_loc nc1 ml hck kl ?_
  walk1
  refine name_loc nc1 mr hck kr ?_
  walk1
  walk1
  refine Ctr.use B F1 X NN1 T (compare_1 w p loose mean mg mb hi d2 l2 q2 a b k4 k5 k6 t1 t2 t3 t4 x0 x1 y0 y1) hk hd hu N2 fun v h2 tk2 F2 NN2 g2 r2 => ?_
  obtain ⟨u2, rfl⟩ := r2
  have b1 := cmpI_bd x0 y0
  have b2 := cmpI_bd x1 y1
  generalize cmpI x0 y0 = e9 at *
  generalize cmpI x1 y1 = f9 at *
  dsimp only
  walk1
  walk1
  walk1
  walk1
  exact hQ h2 _ (g1.trans g2)
end Mine
end

-- AgC
section
open PySem PySem.W PySem.Calls PyProof.Rows
set_option Elab.async false
set_option maxRecDepth 100000
set_option maxHeartbeats 2000000
namespace Mine
theorem off_AgC : True := by w_top off; trivial

def inv2 (a b : Int × Int) : Bool := decide (cmpI a.1 b.1 * cmpI a.2 b.2 < 0)
def agP (ps : List (Int × Int)) : Bool := ps.any fun a => ps.any fun b => inv2 a b

theorem ones_push {ys : Array Value} {t : Tok} (h : IntsAre ys.toList (List.replicate ys.size 1)) : IntsAre (ys.push (.int 1 t)).toList (List.replicate (ys.push (.int 1 t)).size 1) := by
  have := IntsAre.append h (IntsAre.cons 1 t .nil)
  simpa [List.replicate_succ'] using this

theorem ag_comp (w : World) (p : Program) (loose : List Str) (mean : ExcName → Option Value) (mg mb : Str → Option Value)
    {dp un : Nat} {gd : Option (List Code)} {cn : Str} {cs : Scope} {ca : Addr} {ccd : Value} {cl clc : List (Str × Addr)} {outer : List Env} {A₀ : Around} {base g : Heap} {L : Addr} {m : Str → Option Value} {s : Shared} {Q : Value → Shared → Prop} {E : Value → Shared → Prop} {scope : Scope} {pos : Pos}
    {p1 p3 p4 p6 p8 p9 p11 p12 p13 r1 r2 r3 r4 r5 : Pos} {c1 c2 cP lo hi D d1 l1 q1 d2 l2 q2 : Addr} {k1 k2 k3 k4 k5 k6 : Tok} {o1 o2 oP : Obj} {led : List (Addr × Obj)} {Ts : List Addr} {ps : List (Int × Int)} {cc : Nat}
    (B : Below A₀ base outer g) (F : Fr g L s.heap m) (X : (Mine.hd.heap_39 w.params).In g) (T : Top p loose mean mg mb g) (hk : cs.kind = .function) (hd : dp + 2 < recursionLimit) (hu : un + 8 * 2 < cLine)
    (N : News g L s.heap led) (m1 : (c1, o1) ∈ led) (m2 : (c2, o2) ∈ led) (mP : (cP, oP) ∈ led) (e1 : o1.data = .cell (some (.ref lo))) (e2 : o2.data = .cell (some (.ref hi))) (eP : oP.data = .cell (some (.ref D)))
    (hD : (D, listOf (Ts.map Value.ref).toArray cc) ∈ led) (hlen : Ts.length = ps.length) (hsz : ps.length ≤ 100) (hps : ∀ (j : Nat) (T : Addr), Ts[j]? = some T → ∃ x y t u, ps[j]? = some (x, y) ∧ (T, twoObj x y t u) ∈ led)
    (n1 : ∀ q ∈ tcObjs w lo d1 l1 q1 k1 k2 k3 0, q ∈ led) (n2 : ∀ q ∈ tcObjs w hi d2 l2 q2 k4 k5 k6 1, q ∈ led)
    (kP : (envX cn cs L ca ccd cl).kindOf "pairs" = some .cell) (clP : cl.lookup (Str.ofString "pairs") = some cP)
    (hclos : closureFor scope (envX cn cs L ca ccd cl) = pure clc) (hcell : ∀ y ∈ scope.names, y.2 ≠ .cell) (hkind : scope.kind = .function) (hnames : ∀ y ∈ scope.names, y.2 = .local → scope.names.lookup y.1 = some .local)
    (hx0 : scope.names.lookup (Str.ofString "left") = some .local) (hx1 : scope.names.lookup (Str.ofString "right") = some .local)
    (klo : ∀ C, (compEnvC scope clc C (envX cn cs L ca ccd cl)).kindOf "low" = some .cell) (khi : ∀ C, (compEnvC scope clc C (envX cn cs L ca ccd cl)).kindOf "high" = some .cell) (kpa : ∀ C, (compEnvC scope clc C (envX cn cs L ca ccd cl)).kindOf "pairs" = some .cell)
    (clo : clc.lookup (Str.ofString "low") = some c1) (chi : clc.lookup (Str.ofString "high") = some c2) (cpa : clc.lookup (Str.ofString "pairs") = some cP)
    (hQ : ∀ D' h' tk' ys, s.heap.get? D' = none → Grow s.heap h' → h'.PlainList D' ys → IntsAre ys.toList (List.replicate ys.size 1) → (ys.size = 0 ↔ agP ps = false) → Q (.ref D') { s with heap := h', toks := tk' }) :
    wpAny (model PR w) (ktrTop dp un gd cn cs L ca ccd cl outer) (eval (.ListComp (.Constant (.int 1) 0 r1) [⟨.Name "left" r2, .Name "pairs" r3, [], 0⟩, ⟨.Name "right" r4, .Name "pairs" r5,
      [.Compare (.BinOp (.Call (.Attribute (.Name "low" p1) "compare" ⟨73, 54, 73, 65⟩) [.Name "left" p3, .Name "right" p4] [] ⟨73, 54, 73, 78⟩) .Mult (.Call (.Attribute (.Name "high" p6) "compare" ⟨73, 81, 73, 93⟩) [.Name "left" p8, .Name "right" p9] [] ⟨73, 81, 73, 106⟩) p11) [.Lt] [.Constant (.int 0) 0 p12] p13], 0⟩] scope pos) (envX cn cs L ca ccd cl)) Q E s := by
  refine ListComp2 rfl hclos hcell hkind hnames hx0 hx1 (by decide) ?_
  refine name_cel N mP eP clP hk kP ?_
  have hDl : s.heap.IsList D (Ts.map Value.ref).toArray := News.isList N hD
  refine wpAny_pyIter_list hDl ?_
  have hDlt : D < s.heap.objs.size := by obtain ⟨_, e, _⟩ := hDl; exact Heap.lt_size e
  have old : ∀ b o, s.heap.get? b = some o → (s.heap.push { cls := .type "list_iterator", data := .fields #[.ref D, .int 0 0] }).get? b = some o := fun b o e => Heap.get?_push_of_some _ e
  have items : ∀ (i : Nat) (v : Value), (Ts.map Value.ref).toArray[i]? = some v → ∃ (T : Addr) (x y : Int) (t u : Tok), v = .ref T ∧ ps[i]? = some (x, y) ∧ (T, twoObj x y t u) ∈ led := fun i v hv => by
    have hv' : (Ts[i]?).map Value.ref = some v := by simpa using hv
    cases hT : Ts[i]? with
    | none => rw [hT] at hv'; cases hv'
    | some T =>
      rw [hT] at hv'
      obtain ⟨x, y, t, u, a, b⟩ := hps i T hT
      exact ⟨T, x, y, t, u, (Option.some.inj hv').symm, a, b⟩
  refine ⟨s.heap.objs.size, [s.heap.objs.size, D], [s.heap.objs.size], _, _, _, s.heap,
    fun i _ ys => IntsAre ys.toList (List.replicate ys.size 1) ∧ ys.size ≤ i * ps.length ∧ (ys.size = 0 ↔ ((ps.take i).any fun a => ps.any fun b => inv2 a b) = false),
    rfl, Walks.list rfl s.heap.objs.size D (Nat.ne_of_lt hDlt) (Ts.map Value.ref).toArray, ?_, ⟨⟨_, Heap.get?_push_size _ rfl, rfl, rfl⟩, hDl.at fun o e => old _ _ e⟩, ?_, old, ?_, ?_, ?_, ?_⟩
  · rintro i h ⟨⟨o, e, _⟩, _⟩ b hb
    rw [List.mem_singleton.mp hb]
    exact ⟨o, e⟩
  · intro b hb
    dsimp only
    rw [Heap.size_push]
    rcases List.mem_cons.mp hb with rfl | hb
    · exact Nat.lt_succ_self _
    · rw [List.mem_singleton.mp hb]; exact Nat.lt_succ_of_lt hDlt
  · intro b hb
    rw [List.mem_singleton.mp hb]
    cases q : s.heap.get? s.heap.objs.size with
    | none => rfl
    | some o => exact absurd (Heap.lt_size q) (Nat.lt_irrefl _)
  · exact ⟨.nil, Nat.zero_le _, by simp⟩
  · intro C D2 hC hD2 i v s' m' G ys hi hP st hm hJ
    obtain ⟨Ta, xa, ya, ta, ua, rfl, hpa, hma⟩ := items i v hP
    have gs : Grow s.heap s'.heap := st.gG.trans st.Gh
    refine name_cel (N.grown gs) mP eP cpa hkind (kpa C) ?_
    have hDG : G.IsList D (Ts.map Value.ref).toArray := hDl.at fun o e => st.gG _ _ e
    have hDn : D ∉ (compEnvC scope clc C (envX cn cs L ca ccd cl)).locals :: D2 :: [s.heap.objs.size] := by
      obtain ⟨o, e, _⟩ := hDG
      exact st.not_hid e
    refine ⟨s'.heap, s'.toks, rfl, Grow.refl _, D, (Ts.map Value.ref).toArray,
      fun j _ ys => IntsAre ys.toList (List.replicate ys.size 1) ∧ ys.size ≤ i * ps.length + j ∧ (ys.size = 0 ↔ (((ps.take i).any fun a => ps.any fun b => inv2 a b) || ((ps.take j).any fun b => inv2 (xa, ya) b)) = false) ∧ j ≤ ps.length,
      rfl, hDl.at fun o e => gs _ _ e, hDn, ?_, ?_, ?_, ?_⟩
    · intro j G ys h
      have hi' : i < ps.length := by
        rcases Nat.lt_or_ge i ps.length with h | h
        · exact h
        · rw [List.getElem?_eq_none h] at hpa; cases hpa
      have h1 : i * ps.length ≤ 100 * 100 := Nat.mul_le_mul (by omega) hsz
      have h2 := h.2.1
      have h3 := h.2.2.2
      rw [sizeLine_eq]
      omega
    · intro G' _ _
      obtain ⟨j1, j2, j3⟩ := hJ
      exact ⟨j1, j2, by simpa using j3, Nat.zero_le _⟩
    · intro G ys h
      obtain ⟨j1, j2, j3, _⟩ := h
      have hn : (Ts.map Value.ref).toArray.size = ps.length := by simp [hlen]
      rw [hn] at j2 j3
      refine ⟨j1, by rw [Nat.succ_mul]; exact j2, ?_⟩
      rw [List.take_length] at j3
      rw [List.take_add_one, hpa]
      simpa [List.any_append] using j3
    · intro j v1 s'' m'' G'' ys'' hid' hv1 hsub st'' hm0 hm1 hJ2
      obtain ⟨Tb, xb, yb, tb, ub, rfl, hpb, hmb⟩ := items j v1 hv1
      have gs'' : Grow s.heap s''.heap := st''.gG.trans st''.Gh
      obtain ⟨j1, j2, j3, j4⟩ := hJ2
      have hjn : j < ps.length := by
        rcases Nat.lt_or_ge j ps.length with h | h
        · exact h
        · rw [List.getElem?_eq_none h] at hpb; cases hpb
      have key : ((ps.take (j + 1)).any fun b => inv2 (xa, ya) b) = (((ps.take j).any fun b => inv2 (xa, ya) b) || inv2 (xa, ya) (xb, yb)) := by
        rw [List.take_add_one, hpb]; simp [List.any_append]
      refine wpAny_tests_one (ag_test (d1 := d1) (l1 := l1) (q1 := q1) (d2 := d2) (l2 := l2) (q2 := q2) (k1 := k1) (k2 := k2) (k3 := k3) (k4 := k4) (k5 := k5) (k6 := k6) (t1 := ta) (t2 := ua) (t3 := tb) (t4 := ub) (x0 := xa) (x1 := ya) (y0 := xb) (y1 := yb) w p loose mean mg mb B (F.keeps gs'') X T hk hd hu (N.grown gs'') m1 m2 e1 e2 (fun q hq => ?_) (fun q hq => ?_) st''.ns hm0 hm1 hkind (lookup_relabel_local hx0) (lookup_relabel_local hx1) (klo C) (khi C) clo chi fun h' tk' g' => ?_)
      · rcases List.mem_cons.mp hq with rfl | hq
        · exact hma
        · rcases List.mem_cons.mp hq with rfl | hq
          · exact hmb
          · exact n1 q hq
      · rcases List.mem_cons.mp hq with rfl | hq
        · exact hma
        · rcases List.mem_cons.mp hq with rfl | hq
          · exact hmb
          · exact n2 q hq
      refine ⟨h', tk', rfl, g', ?_⟩
      have hdec : decide (cmpI xa xb * cmpI ya yb < 0) = inv2 (xa, ya) (xb, yb) := rfl
      rw [hdec]
      cases hi2 : inv2 (xa, ya) (xb, yb) with
      | true =>
        simp only [if_true]
        refine wpAny_Constant_int ⟨h', tk' + 1, rfl, Grow.refl _, fun G' _ _ => ⟨ones_push j1, ?_, ?_, hjn⟩⟩
        · rw [Array.size_push]; omega
        · rw [key, hi2]; simp
      | false =>
        simp only [Bool.false_eq_true, if_false]
        refine ⟨j1, by omega, ?_, hjn⟩
        rw [key, hi2]; simpa using j3
  · intro D' h' tk ys G hD' gG Gh acc gD hJ hk'
    obtain ⟨j1, j2, j3⟩ := hJ
    have hn : (Ts.map Value.ref).toArray.size = ps.length := by simp [hlen]
    rw [hn, List.take_length] at j3
    refine hQ D' h' tk ys ?_ (gG.trans Gh) acc j1 j3
    cases q : s.heap.get? D' with
    | none => rfl
    | some o => rw [old _ _ q] at hD'; cases hD'
end Mine
end

-- Ag
section
open PySem PySem.W PySem.Calls PyProof.Rows
set_option Elab.async false
set_option maxRecDepth 100000
set_option maxHeartbeats 8000000
namespace Mine
theorem off_Ag : True := by w_top off; trivial

local macro_rules | `(tactic| walk_at "MINE enterC") => `(tactic| (refine' enterYC ?k1 ?k2 ?k3 ?k5 ?kA ?kF ?kK ?k6 ?k7 ?k8 ?k9 ?kB ?kD ?_ ?c2 ?c3 ?c4; (case kA => exact rfl); (case kF => exact rfl); (case kK => assumption); (case k1 => k_asm); (case k2 => k_asm); (case k3 => k_asm); (case k5 => k_asm); (case k6 => k_is); (case k7 => k_is); (case k8 => ktr_room); (case k9 => exact BindsTo.of_eq rfl); (case kB => exact rfl); (case kD => decide +kernel); (case c2 => exact rfl); (case c3 => exact rfl); (case c4 => exact rfl); k_whole; intro L' h' tk' cells' F' N' Y' B' X' T'; k_cells Y'; (try simp only [List.cons_append, List.nil_append] at N'); (try dsimp only); (try k_lift B'); (try k_fold)))
local macro_rules | `(tactic| k_room) => `(tactic| ktr_room)
local macro_rules | `(tactic| k_units) => `(tactic| ktr_units)
local macro_rules | `(tactic| walk_at "call type:zip") => `(tactic| (k_here; (with_reducible show wpAny _ _ (call (Value.type "zip") [Value.ref _, Value.ref _]) _ _ _); k_dflt (refine' zipK ?k1 ?k2 ?k3 ?k4 ?_; (case k1 => k_asm); (case k2 => k_asm); (case k3 => is_list); (case k4 => is_list); k_whole); intro z' h' F' N' Z'))

local macro_rules | `(tactic| walk_at "MINE four") => `(tactic| (refine List.forall_mem_cons.mpr ⟨?_, ?_⟩; k_mem; refine List.forall_mem_cons.mpr ⟨?_, ?_⟩; k_mem; refine List.forall_mem_cons.mpr ⟨?_, ?_⟩; k_mem; refine List.forall_mem_cons.mpr ⟨?_, ?_⟩; k_mem; exact List.forall_mem_nil _))

theorem news_plain {g h h' : Heap} {L D : Addr} {m : Str → Option Value} {led : List (Addr × Obj)} {ys : Array Value} (F : Fr g L h m) (N : News g L h led) (hD : h.get? D = none) (gr : Grow h h') (pl : h'.PlainList D ys) :
    ∃ n, News g L h' ((D, listOf ys n) :: led) := by
  obtain ⟨n, e⟩ := pl
  refine ⟨n, fun p hp => ?_⟩
  rcases List.mem_cons.mp hp with rfl | hp
  · refine ⟨e, fun q => ?_, ?_⟩
    · obtain ⟨o, _, _, ho, _⟩ := F.ns
      have hD' : h.get? L = none := q ▸ hD
      rw [hD'] at ho; cases ho
    · cases q : g.get? D with
      | none => rfl
      | some o => rw [F.keep _ _ q] at hD; cases hD
  · exact ⟨gr _ _ (N p hp).1, (N p hp).2⟩

theorem ag_bool {ps : List (Int × Int)} {k : Nat} (h : k = 0 ↔ agP ps = false) : (!decide (List.replicate k (1 : Int) = [])) = agP ps := by
  cases k with
  | zero => simp [h.mp rfl]
  | succ k =>
    cases q : agP ps with
    | true => simp [List.replicate_succ]
    | false => exact absurd (h.mpr q) (Nat.succ_ne_zero k)
theorem pairLed_in : ∀ {Ts : List Addr} {ps : List (Value × Value)} {j : Nat} {T : Addr} {x y : Value}, Ts[j]? = some T → ps[j]? = some (x, y) → (T, pairObj x y) ∈ pairLed Ts ps
  | [], _, j, _, _, _, h, _ => by simp at h
  | _ :: _, [], j, _, _, _, _, h => by simp at h
  | T :: Ts, (x, y) :: ps, 0, _, _, _, h1, h2 => by
    simp only [List.getElem?_cons_zero, Option.some.injEq, Prod.mk.injEq] at h1 h2
    obtain ⟨rfl, rfl⟩ := h2
    subst h1
    exact List.mem_cons_self
  | T :: Ts, (x, y) :: ps, j + 1, _, _, _, h1, h2 => List.mem_cons_of_mem _ (pairLed_in (by simpa using h1) (by simpa using h2))

section
variable {prog : Program} {w : World} {A : Around} {E : Value → Shared → Prop} {s : Shared} {h₀ : Heap} {L z l1 l2 : Addr} {m : Str → Option Value} {news : List (Addr × Obj)} {vs1 vs2 : List Value} {xs ys : List Int} {Q : Value → Shared → Prop}
theorem listZipG (hh : A.handled = none) (F : Fr h₀ L s.heap m) (N : News h₀ L s.heap news) (Z : ZipNew h₀ L news s.heap z l1 l2 vs1.toArray vs2.toArray) (i1 : IntsAre vs1 xs) (i2 : IntsAre vs2 ys) (hlen : ys.length = xs.length) (h4 : xs.length ≤ 4)
    (h : ∀ (D : Addr) (c : Nat) (h' : Heap) (Ts : List Addr) (led : List (Addr × Obj)), Fr h₀ L h' m → (∀ p ∈ news, p.1 < D) → Ts.length = (xs.zip ys).length → (∀ (j : Nat) (T : Addr), Ts[j]? = some T → ∃ x y t u, (xs.zip ys)[j]? = some (x, y) ∧ (T, twoObj x y t u) ∈ led) → (∀ p ∈ led, @LT.lt Nat _ D p.1) → News h₀ L h' ((D, listOf (Ts.map Value.ref).toArray c) :: (news ++ led)) → Q (.ref D) { s with heap := h' }) :
    wpAny (model prog w) A (call (.type "list") [.ref z]) Q E s := by
  have e1 := i1.length
  have e2 := i2.length
  refine listZipK hh F N Z (by simp only [List.size_toArray]; omega) (by rw [sizeLine_eq]; simp only [List.size_toArray]; omega) fun D c h' Ts F' l1 l2 e' N' => h D c h' Ts (pairLed Ts (vs1.zip vs2)) F' l1 ?_ ?_ (fun p hp => by obtain ⟨j, T, x, y, a, _, rfl⟩ := pairLed_mem hp; exact l2 T (List.mem_of_getElem? a)) fun p hp => N' p ?_
  · rw [e', List.length_zip, List.size_toArray]; omega
  · intro j T hT
    have hj : j < Ts.length := by
      rcases Nat.lt_or_ge j Ts.length with h | h
      · exact h
      · rw [List.getElem?_eq_none h] at hT; cases hT
    rw [e', List.size_toArray] at hj
    obtain ⟨x, t, a1, a2⟩ := ints_get i1 (List.getElem?_eq_getElem hj)
    obtain ⟨y, u, b1, b2⟩ := ints_get i2 (List.getElem?_eq_getElem (by omega : j < vs2.length))
    refine ⟨x, y, t, u, List.getElem?_zip_eq_some.mpr ⟨a2, b2⟩, pairLed_in hT (List.getElem?_zip_eq_some.mpr ⟨?_, ?_⟩)⟩
    · rw [List.getElem?_eq_getElem hj, a1]
    · rw [List.getElem?_eq_getElem (by omega : j < vs2.length), b1]
  · simp only [List.mem_cons, List.mem_append] at hp ⊢
    rcases hp with h | h | h
    · exact .inl h
    · exact .inr (.inr h)
    · exact .inr (.inl h)
end

local macro_rules | `(tactic| walk_at "call type:list") => `(tactic| (k_here; (with_reducible show wpAny _ _ (call (Value.type "list") [Value.ref _]) _ _ _); k_dflt (refine' listZipG ?hh ?k1 ?k2 ?Z ?a ?b ?c ?d ?_; (case hh => exact rfl); (case k1 => k_asm); (case k2 => k_asm); (case Z => assumption); (case a => assumption); (case b => assumption); (case c => assumption); (case d => assumption); k_whole); intro D' c' h' Ts' led' F' l1 e' hp' hL' N'; (try simp only [List.cons_append, List.nil_append] at N'); (try k_lt l1); (try k_sweep)))
local macro_rules | `(tactic| k_all) => `(tactic| (intro q9 hq9; (rename (∀ p ∈ _, _ < _) => hL9); have h9 := hL9 q9 hq9; refine neN ?_; (try dsimp only); omega))

theorem against_gen (w : World) (p : Program) (loose : List Str) (mean : ExcName → Option Value) (mg mb : Str → Option Value) (l1 l2 : Addr) (vs1 vs2 : List Value) (xs ys : List Int) (i1 : IntsAre vs1 xs) (i2 : IntsAre vs2 ys) (hlen : ys.length = xs.length) (h4 : xs.length ≤ 4) :
    Ctr w (Mine.hd.heap_39 w.params) p loose mean mg mb 91 [.ref l1, .ref l2] 12 (fun _ _ h => h.IsList l1 vs1.toArray ∧ h.IsList l2 vs2.toArray)
      (fun _ _ v => v = .bool (agP (xs.zip ys))) := by
  have fill : Fill PySem.Challenge.rw_gm0005_01 Mine.hd.heap_39 := by k_fill; trivial
  clear fill
  unfold Ctr
  intro dp un gd cn cs a ccd cl outer A₀ base h₀ L m s Q E B F X T hk hd hu hP hret
  obtain ⟨g, gens, drawn, toks, os⟩ := s
  dsimp only at *
  obtain ⟨hl1, hl2⟩ := hP
  refine wpAny_call ?_
  k_dflt walk_at "MINE enterC"
  k_steps
  rename News _ _ _ _ => N9
  rename Fr _ _ _ _ => F9
  refine' ag_comp (ps := xs.zip ys) w p loose mean mg mb ?B F9 ?X ?T ?hk ?hd ?hu N9 ?m1 ?m2 ?mP ?e1 ?e2 ?eP ?hD ?hlen ?hsz ?hps ?n1 ?n2 ?kP ?clP ?hclos ?hcell ?hkind ?hnames ?hx0 ?hx1 ?klo ?khi ?kpa ?clo ?chi ?cpa ?hQ
  case B => k_asm
  case X => k_asm
  case T => k_asm
  case hk => exact rfl
  case hd => ktr_room
  case hu => ktr_units
  case hclos => with_unfolding_all rfl
  case clP => rfl
  case clo => rfl
  case chi => rfl
  case cpa => rfl
  case mP => k_mem
  case m1 => k_mem
  case m2 => k_mem
  case eP => k_asm
  case e1 => k_asm
  case e2 => k_asm
  case hD => k_mem
  case hlen => assumption
  case hsz => rw [List.length_zip]; omega
  case hps => (intro j9 T9 hT9; (rename ∀ (j : Nat) (T : Addr), _ → _ => hp9); obtain ⟨x9, y9, t9, u9, e9, hm9⟩ := hp9 j9 T9 hT9; exact ⟨x9, y9, t9, u9, e9, by repeat (first | exact hm9 | apply List.mem_cons_of_mem)⟩)
  case n1 => walk_at "MINE four"
  case n2 => walk_at "MINE four"
  case kP => rfl
  case hcell => decide
  case hkind => rfl
  case hnames => decide
  case hx0 => rfl
  case hx1 => rfl
  case klo => intro _; rfl
  case khi => intro _; rfl
  case kpa => intro _; rfl
  intro D9 h9 tk9 ys9 fr9 g9 pl9 in9 if9
  obtain ⟨n9, N8⟩ := news_plain F9 N9 fr9 g9 pl9
  have F8 := F9.keeps g9
  obtain ⟨y9⟩ := ys9
  dsimp only at in9 if9 ⊢
  clear N9 F9 pl9 g9 fr9
  k_steps
  refine hret _ _ _ (Fr.keep (by assumption)) ?_
  exact congrArg Value.bool (ag_bool if9)
end Mine
end

-- OrdT
section
open PySem PySem.W PySem.Calls PyProof.Rows
set_option Elab.async false
set_option maxRecDepth 100000
set_option maxHeartbeats 2000000
namespace Mine
theorem off_OrdT : True := by w_top off; trivial

section
variable {prog : Program} {w : World} {A : Around} {E : Value → Shared → Prop} {s : Shared} {Q : Value → Shared → Prop}

theorem slice_raw {value slice : PySem.Expr} {l : Addr} {items : Array Value} {vl vu vk : Value} {lo hi st : Option Int} {ops : List Value} (hl : s.heap.IsList l items) (pl : IsPart vl lo) (pu : IsPart vu hi) (pk : IsPart vk st) (h0 : st ≠ some 0)
    (h : ∀ h', Grow s.heap h' → h'.get? (s.heap.objs.size + 1) = some { cls := .type "list", data := .seq (slicePick items lo hi st) } → Q (.ref (s.heap.objs.size + 1)) { s with heap := h' })
    (hs : subscripted slice false (.ref l) (.ref s.heap.objs.size) = operate ops (getItem (.ref l) (.ref s.heap.objs.size))) (ht : ∀ r, letTemporaryGo value (.ref l) r = pure ()) (hsz : items.size ≤ sizeLine) :
    wpAny (model prog w) A (subscriptTail value slice (.ref l) (.ref s.heap.objs.size)) Q E { s with heap := s.heap.push { cls := .type "slice", data := .fields #[vl, vu, vk] } } := by
  refine subscriptTail_ops (Heap.IsList.typeIs (s := { s with heap := s.heap.push { cls := .type "slice", data := .fields #[vl, vu, vk] } }) (hl.push _)) list_getitem_lookup
    (wpAny_getItem_list_slice (hl.push _) (Heap.IsSliceOf.new ..) pl pu pk h0 ?_ hsz) hs ht
  dsimp only
  have e1 : (s.heap.push { cls := .type "slice", data := .fields #[vl, vu, vk] }).objs.size = s.heap.objs.size + 1 := Heap.size_push ..
  have e2 := Heap.get?_push_size (s.heap.push { cls := .type "slice", data := .fields #[vl, vu, vk] }) (o := { cls := .type "list", data := .seq (slicePick items lo hi st) }) rfl
  rw [e1] at e2 ⊢
  exact h _ (fun b o e => Heap.get?_push_of_some _ (Heap.get?_push_of_some _ e)) e2

theorem add_raw {l b : Addr} {vs ws : List Value} (hl : s.heap.IsList l vs.toArray) (hb : s.heap.IsList b ws.toArray)
    (h : ∀ h', Grow s.heap h' → h'.get? s.heap.objs.size = some { cls := .type "list", data := .seq (vs ++ ws).toArray } → Q (.ref s.heap.objs.size) { s with heap := h' })
    (hsz : vs.length + ws.length ≤ sizeLine) : wpAny (model prog w) A (binaryOp .Add (.ref l) (.ref b)) Q E s := by
  obtain ⟨⟨cls, dd, data, sl⟩, ho, hc, n, hd⟩ := id hl
  obtain ⟨⟨cls2, dd2, data2, sl2⟩, ho2, hc2, n2, hd2⟩ := id hb
  simp only at hc hd hc2 hd2
  subst hc hd hc2 hd2
  refine concat_meets ⟨_, ho, rfl⟩ ⟨_, ho2, rfl⟩ noFill_list_add seq_list_add PySem.F.slot_list_add PySem.F.entry_list_add (PySem.F.args_list_add_2 _ _) (list_addW l b vs.toArray ws.toArray n n2 dd dd2 sl sl2 (by simpa using hsz)) ⟨ho, ho2, ?_⟩
  have e : vs.toArray ++ ws.toArray = (vs ++ ws).toArray := by simp
  rw [e]
  exact h _ (fun b o e => Heap.get?_push_of_some _ e) (Heap.get?_push_size _ rfl)

theorem list_raw {vs : List Value} (h : ∀ h', Grow s.heap h' → h'.get? s.heap.objs.size = some { cls := .type "list", data := .seq vs.toArray } → Q (.ref s.heap.objs.size) { s with heap := h' }) (hsz : vs.length ≤ sizeLine) :
    wpAny (model prog w) A (newList vs) Q E s := wpAny_newList (h _ (fun b o e => Heap.get?_push_of_some _ e) (Heap.get?_push_size _ rfl)) hsz
end

theorem fresh_size (h : Heap) {a : Addr} (ha : h.objs.size ≤ a) : h.get? a = none := by
  cases q : h.get? a with
  | none => rfl
  | some o => exact absurd (Heap.lt_size q) (Nat.not_lt.mpr ha)
theorem Grow.size_none {h h' : Heap} (g : Grow h h') {a : Addr} (e : h'.get? a = none) : h.get? a = none := by
  cases q : h.get? a with
  | none => rfl
  | some o => rw [g _ _ q] at e; cases e

section
variable {w : World} {p : Program} {loose : List Str} {mean : ExcName → Option Value} {mg mb : Str → Option Value}
    {dp un : Nat} {gd : Option (List Code)} {cn : Str} {cs : Scope} {ca : Addr} {ccd : Value} {cl : List (Str × Addr)} {outer : List Env} {A₀ : Around} {base g : Heap} {L : Addr} {m mc : Str → Option Value} {s : Shared} {Q : Value → Shared → Prop} {E : Value → Shared → Prop} {cenv : Env}
    {p1 p2 p3 p4 p5 p6 p7 p8 p9 p10 p11 p12 p13 : Pos} {cN l l2 : Addr} {oN : Obj} {led : List (Addr × Obj)} {vs ws : List Value} {k : Int} {tk : Tok}

/-- [numbers[k]] + rest -/
theorem ord_elt (N : News g L s.heap led) (mN : (cN, oN) ∈ led) (eN : oN.data = .cell (some (.ref l))) (hl : s.heap.IsList l vs.toArray) (hl2 : s.heap.IsList l2 ws.toArray) (hz : vs.length ≤ 1000) (hz2 : ws.length ≤ 1000)
    (nc : s.heap.Ns cenv.locals mc) (mk : mc "k" = some (.int k tk)) (mr : mc "rest" = some (.ref l2)) (hck : cenv.scope.kind = .function) (kk : cenv.kindOf "k" = some .local) (kr : cenv.kindOf "rest" = some .local) (kn : cenv.kindOf "numbers" = some .cell)
    (cn' : cenv.cells.lookup (Str.ofString "numbers") = some cN) (h0 : 0 ≤ k) (h1 : k < vs.length) {x : Value} (hx : vs[k.toNat]? = some x)
    (hQ : ∀ r h' tk', Grow s.heap h' → s.heap.get? r = none → h'.IsList r (x :: ws).toArray → Q (.ref r) { s with heap := h', toks := tk' }) :
    wpAny (model PR w) (ktrTop dp un gd cn cs L ca ccd cl outer) (eval (.BinOp (.List [.Subscript (.Name "numbers" p1) (.Name "k" p2) p3] p4) .Add (.Name "rest" p5) p6) cenv) Q E s := by
  refine wpAny_BinOp ?_
  refine List_ ?_
  refine wpAny_items_cons ?_
  refine Subscript_ ?_
  refine name_cel N mN eN cn' hck kn ?_
  refine name_loc nc mk hck kk ?_
  refine tail_any hl.typeIs slot_list_getitem.lookup (wpAny_getItem_list hl h0 (by omega) (by simpa using hx) ?_) (by with_unfolding_all rfl)
  refine wpAny_items_nil ?_
  refine list_raw (fun h1 g1 e1 => ?_) (by simp [sizeLine_eq])
  refine name_loc (nc.keeps g1) mr hck kr ?_
  refine add_raw (vs := [x]) (ws := ws) ⟨_, e1, rfl, _, rfl⟩ (g1.list hl2) (fun h2 g2 e2 => ?_) (by simp [sizeLine_eq]; omega)
  exact hQ _ h2 _ (g1.trans g2) (g1.size_none (fresh_size _ (Nat.le_refl _))) ⟨_, e2, rfl, _, rfl⟩

/-- _law_orders(numbers[:k] + numbers[k + 1:]) -/
theorem ord_iter {xs : List Int} {d : Nat} {R : Heap → Heap → Value → Prop} (B : Below A₀ base outer g) (F : Fr g L s.heap m) (X : (Mine.hd.heap_39 w.params).In g) (T : Top p loose mean mg mb g) (hk : cs.kind = .function) (hd : dp + d < recursionLimit) (hu : un + 8 * d < cLine)
    (N : News g L s.heap led) (mN : (cN, oN) ∈ led) (eN : oN.data = .cell (some (.ref l))) (hl : s.heap.IsList l vs.toArray) (hi : IntsAre vs xs) (hz : vs.length ≤ 1000)
    (nc : s.heap.Ns cenv.locals mc) (mk : mc "k" = some (.int k tk)) (hck : cenv.scope.kind = .function) (hcg : cenv.globals = mainGlobals) (kk : cenv.kindOf "k" = some .local) (ko : cenv.kindOf "_law_orders" = some .globalImplicit) (kn : cenv.kindOf "numbers" = some .cell)
    (cn' : cenv.cells.lookup (Str.ofString "numbers") = some cN) (h0 : 0 ≤ k) (h1 : k < 1000)
    (IH : ∀ (l9 : Addr) (ws : List Value), IntsAre ws (xs.take k.toNat ++ xs.drop (k + 1).toNat) → Ctr w (Mine.hd.heap_39 w.params) p loose mean mg mb 79 [.ref l9] d (fun _ _ h => h.IsList l9 ws.toArray) R)
    (hQ : ∀ v h₁ h' tk', Grow s.heap h₁ → Grow h₁ h' → R h₁ h' v → Q v { s with heap := h', toks := tk' }) :
    wpAny (model PR w) (ktrTop dp un gd cn cs L ca ccd cl outer) (eval (.Call (.Name "_law_orders" p1) [.BinOp (.Subscript (.Name "numbers" p2) (.Slice none (some (.Name "k" p3)) none p4) p5) .Add
      (.Subscript (.Name "numbers" p6) (.Slice (some (.BinOp (.Name "k" p7) .Add (.Constant (.int 1) 0 p8) p9)) none none p10) p11) p12] [] p13) cenv) Q E s := by
  have fill : Fill PySem.Challenge.rw_gm0005_01 Mine.hd.heap_39 := by k_fill; trivial
  clear fill
  refine Call_ ?_
  refine nameG_K F X (topRead_of T) (v := .ref 79) (by k_is) ?_ hcg hck ko (by decide)
  refine callWith_K X (by k_is) ?_
  refine wpAny_items_cons ?_
  refine wpAny_BinOp ?_
  refine Subscript_ ?_
  refine name_cel N mN eN cn' hck kn ?_
  refine wpAny_Slice ?_
  refine wpAny_evalPart_none ?_
  refine wpAny_evalPart_some ?_
  refine name_loc nc mk hck kk ?_
  refine wpAny_evalPart_none ?_
  refine slice_raw hl .none (.int _ _) .none (by simp) (fun h1 g1 e1 => ?_) (by with_unfolding_all rfl) (by intro _; with_unfolding_all rfl) (by rw [sizeLine_eq]; simp; omega)
  refine Subscript_ ?_
  refine name_cel (N.grown g1) mN eN cn' hck kn ?_
  refine wpAny_Slice ?_
  refine wpAny_evalPart_some ?_
  refine wpAny_BinOp ?_
  refine name_loc (nc.keeps g1) mk hck kk ?_
  refine wpAny_Constant_int ?_
  refine add_int ?_
  refine wpAny_evalPart_none ?_
  refine wpAny_evalPart_none ?_
  refine slice_raw (s := { s with heap := h1, toks := _ }) (g1.list hl) (.int _ _) .none .none (by simp) (fun h2 g2 e2 => ?_) (by with_unfolding_all rfl) (by intro _; with_unfolding_all rfl) (by rw [sizeLine_eq]; simp; omega)
  have i1 := slice_ints_uptoW hi h0
  have i2 := slice_ints_fromW hi (x := k + 1) (by omega)
  have z1 := i1.length
  have z2 := i2.length
  have z3 := hi.length
  rw [List.length_take] at z1
  rw [List.length_drop] at z2
  refine add_raw (vs := (slicePick vs.toArray none (some k) none).toList) (ws := (slicePick vs.toArray (some (k + 1)) none none).toList) ⟨_, g2 _ _ e1, rfl, _, by rw [Array.toArray_toList]⟩ ⟨_, e2, rfl, _, by rw [Array.toArray_toList]⟩ (fun h3 g3 e3 => ?_) (by rw [sizeLine_eq]; omega)
  refine wpAny_items_nil ?_
  have g13 : Grow s.heap h3 := (g1.trans g2).trans g3
  refine ⟨(X.keeps F.keep).keeps g13, ?_⟩
  refine IH _ _ (i1.append i2) _ _ _ _ _ _ _ _ _ _ _ _ _ _ _ _ _ B (F.keeps g13) X T hk hd hu ⟨_, e3, rfl, _, rfl⟩ fun v h' tk' g4 r => ?_
  exact hQ v h3 h' tk' g13 g4 r
end
end Mine
end

-- OrdC
section
open PySem PySem.W PySem.Calls PyProof.Rows
set_option Elab.async false
set_option maxRecDepth 100000
set_option maxHeartbeats 2000000
namespace Mine
theorem off_OrdC : True := by w_top off; trivial

/-- all orders of a list, as _law_orders makes them -/
def ordersN : Nat → List Int → List (List Int)
  | 0, _ => [[]]
  | n + 1, xs => (List.range xs.length).flatMap fun k => (ordersN n (xs.take k ++ xs.drop (k + 1))).map (xs.getD k 0 :: ·)

def LsAt (h0 h : Heap) (rs : List Value) (wss : List (List Int)) : Prop :=
  Paired (fun v ws => ∃ (a : Addr) (vs : List Value), v = Value.ref a ∧ h0.get? a = none ∧ h.IsList a vs.toArray ∧ IntsAre vs ws) rs wss

theorem Paired.mono' {α β : Type} {F F' : α → β → Prop} (hF : ∀ a b, F a b → F' a b) : ∀ {l₁ : List α} {l₂ : List β}, Paired F l₁ l₂ → Paired F' l₁ l₂
  | _, _, .nil => .nil
  | _, _, .cons a r => .cons (hF _ _ a) (Paired.mono' hF r)
theorem Paired.at' {α β : Type} {F : α → β → Prop} : ∀ {l₁ : List α} {l₂ : List β}, Paired F l₁ l₂ → ∀ (j : Nat) (a : α), l₁[j]? = some a → ∃ b, l₂[j]? = some b ∧ F a b
  | _, _, .nil, _, _, h => by simp at h
  | _, _, .cons (a := x) (b := y) f r, 0, a, h => by
    simp only [List.getElem?_cons_zero, Option.some.injEq] at h
    subst h
    exact ⟨y, rfl, f⟩
  | _, _, .cons f r, j + 1, a, h => by
    obtain ⟨b, h1, h2⟩ := Paired.at' r j a (by simpa using h)
    exact ⟨b, by simpa using h1, h2⟩
theorem LsAt.mono {h0 h h' : Heap} {rs : List Value} {wss : List (List Int)} (x : LsAt h0 h rs wss) (g : Grow h h') : LsAt h0 h' rs wss :=
  Paired.mono' (fun _ _ ⟨a, vs, e1, e2, e3, e4⟩ => ⟨a, vs, e1, e2, g.list e3, e4⟩) x

def facN : Nat → Nat
  | 0 => 1
  | n + 1 => (n + 1) * facN n
theorem orders_len : ∀ (n : Nat) (xs : List Int), xs.length = n → (ordersN n xs).length = facN n
  | 0, _, _ => rfl
  | n + 1, xs, h => by
    have inner : ∀ k ∈ List.range xs.length, ((ordersN n (xs.take k ++ xs.drop (k + 1))).map (xs.getD k 0 :: ·)).length = facN n := fun k hk => by
      rw [List.length_map]
      refine orders_len n _ ?_
      have := List.mem_range.mp hk
      simp only [List.length_append, List.length_take, List.length_drop]
      omega
    show ((List.range xs.length).flatMap _).length = (n + 1) * facN n
    rw [List.length_flatMap]
    rw [List.map_congr_left inner, List.map_const', List.sum_replicate_nat, List.length_range, h]
theorem orders_mem_len : ∀ (n : Nat) (xs : List Int), xs.length = n → ∀ ws ∈ ordersN n xs, ws.length = n
  | 0, _, _, ws, h => by
    rw [ordersN, List.mem_singleton] at h
    rw [h]; rfl
  | n + 1, xs, hx, ws, h => by
    rw [ordersN, List.mem_flatMap] at h
    obtain ⟨k, hk, h⟩ := h
    obtain ⟨us, hu, rfl⟩ := List.mem_map.mp h
    have := List.mem_range.mp hk
    rw [List.length_cons, orders_mem_len n _ (by simp only [List.length_append, List.length_take, List.length_drop]; omega) us hu]
theorem prefix_len {n : Nat} {xs : List Int} (hx : xs.length = n + 1) {i : Nat} (hi : i ≤ xs.length) : ((List.range i).flatMap fun k => (ordersN n (xs.take k ++ xs.drop (k + 1))).map (xs.getD k 0 :: ·)).length = i * facN n := by
  have inner : ∀ k ∈ List.range i, ((ordersN n (xs.take k ++ xs.drop (k + 1))).map (xs.getD k 0 :: ·)).length = facN n := fun k hk => by
    rw [List.length_map]
    refine orders_len n _ ?_
    have := List.mem_range.mp hk
    simp only [List.length_append, List.length_take, List.length_drop]
    omega
  rw [List.length_flatMap, List.map_congr_left inner, List.map_const', List.sum_replicate_nat, List.length_range]
theorem fac_le {n : Nat} (h : n ≤ 4) : facN n ≤ 24 := by
  match n, h with
  | 0, _ => decide
  | 1, _ => decide
  | 2, _ => decide
  | 3, _ => decide
  | 4, _ => decide

abbrev OrdCtr (w : World) (p : Program) (loose : List Str) (mean : ExcName → Option Value) (mg mb : Str → Option Value) (n d : Nat) : Prop :=
  ∀ (l : Addr) (vs : List Value) (xs : List Int), xs.length = n → IntsAre vs xs → Ctr w (Mine.hd.heap_39 w.params) p loose mean mg mb 79 [.ref l] d (fun _ _ h => h.IsList l vs.toArray)
    (fun h h' v => ∃ r items, v = .ref r ∧ h.get? r = none ∧ h'.IsList r items ∧ LsAt h h' items.toList (ordersN n xs))

section
variable {w : World} {p : Program} {loose : List Str} {mean : ExcName → Option Value} {mg mb : Str → Option Value}
    {dp un : Nat} {gd : Option (List Code)} {cn : Str} {cs : Scope} {ca : Addr} {ccd : Value} {cl clc : List (Str × Addr)} {outer : List Env} {A₀ : Around} {base g : Heap} {L : Addr} {m : Str → Option Value} {s : Shared} {Q : Value → Shared → Prop} {E : Value → Shared → Prop} {scope : Scope}
    {p1 p2 p3 p4 p5 p6 p7 p8 p9 p10 p11 p12 p13 r1 r2 r3 r4 r5 r6 r7 r8 q1 q2 q3 q4 q5 q6 pos : Pos} {cN l : Addr} {oN : Obj} {led : List (Addr × Obj)} {vs : List Value} {xs : List Int}

theorem ord_comp {n d : Nat} (IH : OrdCtr w p loose mean mg mb n d) (hn : n ≤ 3) (hxs : xs.length = n + 1)
    (B : Below A₀ base outer g) (F : Fr g L s.heap m) (X : (Mine.hd.heap_39 w.params).In g) (T : Top p loose mean mg mb g) (hk : cs.kind = .function) (hd : dp + d < recursionLimit) (hu : un + 8 * d < cLine)
    (N : News g L s.heap led) (mN : (cN, oN) ∈ led) (eN : oN.data = .cell (some (.ref l))) (hl : s.heap.IsList l vs.toArray) (hi : IntsAre vs xs)
    (kN : (envX cn cs L ca ccd cl).kindOf "numbers" = some .cell) (kR : (envX cn cs L ca ccd cl).kindOf "range" = some .globalImplicit) (kL : (envX cn cs L ca ccd cl).kindOf "len" = some .globalImplicit) (clN : cl.lookup (Str.ofString "numbers") = some cN)
    (hclos : closureFor scope (envX cn cs L ca ccd cl) = pure clc) (hcell : ∀ y ∈ scope.names, y.2 ≠ .cell) (hkind : scope.kind = .function) (hnames : ∀ y ∈ scope.names, y.2 = .local → scope.names.lookup y.1 = some .local)
    (hx0 : scope.names.lookup (Str.ofString "k") = some .local) (hx1 : scope.names.lookup (Str.ofString "rest") = some .local)
    (kn : ∀ C, (compEnvC scope clc C (envX cn cs L ca ccd cl)).kindOf "numbers" = some .cell) (ko : ∀ C, (compEnvC scope clc C (envX cn cs L ca ccd cl)).kindOf "_law_orders" = some .globalImplicit)
    (cnn : clc.lookup (Str.ofString "numbers") = some cN)
    (hQ : ∀ D' h' tk' items, s.heap.get? D' = none → Grow s.heap h' → h'.PlainList D' items → LsAt s.heap h' items.toList (ordersN (n + 1) xs) → Q (.ref D') { s with heap := h', toks := tk' }) :
    wpAny (model PR w) (ktrTop dp un gd cn cs L ca ccd cl outer) (eval (.ListComp
      (.BinOp (.List [.Subscript (.Name "numbers" q1) (.Name "k" q2) q3] q4) .Add (.Name "rest" q5) q6)
      [⟨.Name "k" r1, .Call (.Name "range" r2) [.Call (.Name "len" r3) [.Name "numbers" r4] [] r5] [] r6, [], 0⟩,
       ⟨.Name "rest" r7, .Call (.Name "_law_orders" p1) [.BinOp (.Subscript (.Name "numbers" p2) (.Slice none (some (.Name "k" p3)) none p4) p5) .Add
          (.Subscript (.Name "numbers" p6) (.Slice (some (.BinOp (.Name "k" p7) .Add (.Constant (.int 1) 0 p8) p9)) none none p10) p11) p12] [] p13, [], 0⟩] scope pos) (envX cn cs L ca ccd cl)) Q E s := by
  have fill : Fill PySem.Challenge.rw_gm0005_01 Mine.hd.heap_39 := by k_fill; trivial
  clear fill
  refine ListComp2 rfl hclos hcell hkind hnames hx0 hx1 (by decide) ?_
  refine Call_ ?_
  refine nameX_B F X (topRead_of T) (by k_is) boot_range (by decide) ?_ hk kR (by decide)
  walk1
  refine wpAny_items_cons ?_
  refine Call_ ?_
  refine nameX_B F X (topRead_of T) (by k_is) boot_len (by decide) ?_ hk kL (by decide)
  walk1
  refine wpAny_items_cons ?_
  refine name_cel N mN eN clN hk kN ?_
  refine wpAny_items_nil ?_
  have hlen : vs.length = xs.length := hi.length
  refine len_list hl (by simp only [List.size_toArray]; omega) ?_
  refine wpAny_items_nil ?_
  refine call_range_1 ?_
  dsimp only
  have hsmall : Builtin.Range.small 0 ((vs.toArray.size : Nat) : Int) 1 = true := by
    have : vs.toArray.size ≤ 4 := by simp only [List.size_toArray]; omega
    generalize vs.toArray.size = z at this
    match z, this with
    | 0, _ => decide
    | 1, _ => decide
    | 2, _ => decide
    | 3, _ => decide
    | 4, _ => decide
  have hrs : Builtin.Range.rangeSize 0 ((vs.toArray.size : Nat) : Int) 1 = ((xs.length : Nat) : Int) := by
    have h2 : vs.toArray.size = xs.length := by simp only [List.size_toArray]; exact hlen
    rw [h2]
    have : xs.length ≤ 4 := by omega
    generalize xs.length = z at this
    match z, this with
    | 0, _ => decide
    | 1, _ => decide
    | 2, _ => decide
    | 3, _ => decide
    | 4, _ => decide
  refine wpAny_pyIter_range (Heap.get?_push_size _ rfl) hsmall ?_
  rw [hrs]
  dsimp only
  generalize hH1 : s.heap.push { cls := .type "range", data := .fields #[.int 0 (s.toks + 1 + 1), .int ((vs.toArray.size : Nat) : Int) (s.toks + 1), .int 1 (s.toks + 1 + 1 + 1)] } = H1
  have g1 : Grow s.heap H1 := fun b o e => hH1 ▸ Heap.get?_push_of_some _ e
  have s1 : H1.objs.size = s.heap.objs.size + 1 := by rw [← hH1, Heap.size_push]
  have g2 : Grow H1 (H1.push { cls := .type "range_iterator", data := .fields #[rawInt 0, rawInt ((xs.length : Nat) : Int), rawInt 1] }) := fun b o e => Heap.get?_push_of_some _ e
  refine ⟨H1.objs.size, [H1.objs.size], [H1.objs.size], xs.length, _, _, s.heap,
    fun i G ys => i ≤ xs.length ∧ LsAt s.heap G ys.toList ((List.range i).flatMap fun k => (ordersN n (xs.take k ++ xs.drop (k + 1))).map (xs.getD k 0 :: ·)),
    rfl, (Walks.range rfl H1.objs.size 0 1 xs.length).bound, ?_, ?_, ?_, g1.trans g2, ?_, ?_, ?_, ?_⟩
  · intro i h st b hb
    rw [List.mem_singleton.mp hb]
    exact ⟨_, st⟩
  · show IsRangeIter _ _ _ _ _
    simpa using Heap.get?_push_size _ rfl
  · intro b hb
    rw [List.mem_singleton.mp hb, Heap.size_push]
    exact Nat.lt_succ_self _
  · intro b hb
    rw [List.mem_singleton.mp hb]
    exact fresh_size _ (by rw [s1]; exact Nat.le_succ _)
  · exact ⟨Nat.zero_le _, .nil⟩
  · intro C D hC hD i v s' m' G ys hin hP st hm hJ
    obtain ⟨_, tk, rfl⟩ := hP
    have ev : (0 : Int) + (i : Int) * 1 = (i : Int) := by omega
    rw [ev] at hm
    have gs : Grow s.heap s'.heap := st.gG.trans st.Gh
    have eT : ((i : Int) + 1).toNat = i + 1 := by omega
    have eI : ((i : Int)).toNat = i := by omega
    have hzs : (xs.take i ++ xs.drop (i + 1)).length = n := by
      simp only [List.length_append, List.length_take, List.length_drop]; omega
    have hlen0 := orders_len n _ hzs
    have hfac : facN n ≤ 24 := fac_le (by omega)
    refine ord_iter (xs := xs) (d := d) (R := fun h h' v => ∃ r items, v = .ref r ∧ h.get? r = none ∧ h'.IsList r items ∧ LsAt h h' items.toList (ordersN n (xs.take i ++ xs.drop (i + 1)))) B (F.keeps gs) X T hk hd hu (N.grown gs) mN eN (gs.list hl) hi (by omega) st.ns hm hkind rfl
      (lookup_relabel_local hx0) (ko C) (kn C) cnn (by omega) (by omega) (fun l9 ws h9 => ?_) (fun v₁ h₁ h' tk' ga gb hr => ?_)
    · rw [eT, eI] at h9
      exact IH l9 ws _ hzs h9
    · obtain ⟨r, items, rfl, hr0, hrl, hls⟩ := hr
      have hrn : r ∉ C :: D :: [H1.objs.size] := st.fresh (ga.size_none hr0)
      refine ⟨h', tk', rfl, ga.trans gb, r, items,
        fun j G ys => j ≤ items.size ∧ Paired (fun v ws => ∃ (a : Addr) (vs : List Value), v = Value.ref a ∧ G.IsList a vs.toArray ∧ IntsAre vs ws) items.toList (ordersN n (xs.take i ++ xs.drop (i + 1))) ∧
          LsAt s.heap G ys.toList (((List.range i).flatMap fun k => (ordersN n (xs.take k ++ xs.drop (k + 1))).map (xs.getD k 0 :: ·)) ++ ((ordersN n (xs.take i ++ xs.drop (i + 1))).take j).map (xs.getD i 0 :: ·)),
        rfl, hrl, hrn, ?_, ?_, ?_, ?_⟩
      · rintro j G ys ⟨_, _, h3⟩
        have e := h3.length
        rw [List.length_append, List.length_map, prefix_len hxs (Nat.le_of_lt hin), List.length_take, hlen0, Array.length_toList] at e
        have : i * facN n ≤ 4 * 24 := Nat.mul_le_mul (by omega) hfac
        rw [sizeLine_eq]
        omega
      · intro G' gG' hG'
        refine ⟨Nat.zero_le _, ?_, ?_⟩
        · exact Paired.mono' (fun v ws ⟨a, us, e1, e2, e3, e4⟩ => ⟨a, us, e1, e3.at fun o e => hG' _ _ (st.fresh (ga.size_none e2)) e, e4⟩) hls
        · simpa using hJ.2.mono gG'
      · rintro G ys ⟨h1, h2, h3⟩
        have e := h2.length
        simp only [Array.length_toList] at e
        refine ⟨hin, ?_⟩
        rw [e, List.take_length] at h3
        rw [List.range_succ, List.flatMap_append]
        simpa using h3
      · intro j v1 s'' m'' G'' ys'' hid' hv1 hsub st'' hm0 hm1 hJ2
        obtain ⟨j1, j2, j3⟩ := hJ2
        obtain ⟨ws1, hw1, a, us, rfl, hua, hui⟩ := Paired.at' j2 j v1 (by simpa using hv1)
        have hjl : j < items.size := (Array.getElem?_eq_some_iff.mp hv1).1
        refine wpAny_tests_nil ⟨s''.heap, s''.toks, rfl, Grow.refl _, ?_⟩
        simp only [if_true]
        have gs'' : Grow s.heap s''.heap := st''.gG.trans st''.Gh
        have hix : i < vs.length := by omega
        obtain ⟨tx, hx⟩ := hi.int_at i vs[i] (by simp [hix])
        have hgx : vs[((i : Int)).toNat]? = some (.int (xs.getD i 0) tx) := by rw [eI, ← hx]; simp [hix]
        have huz : us.length = n := by
          rw [hui.length]
          exact orders_mem_len n _ hzs ws1 (List.mem_of_getElem? hw1)
        have hm0' : m'' (Str.ofString "k") = some (.int (i : Int) tk) := by rw [← ev]; exact hm0
        refine ord_elt (N.grown gs'') mN eN (gs''.list hl) (st''.Gh.list hua) (by omega) (by omega) st''.ns hm0' hm1 hkind (lookup_relabel_local hx0) (lookup_relabel_local hx1) (kn C) cnn (by omega) (by omega) hgx fun r2 h4 tk4 g4 hr2 hl4 => ?_
        refine ⟨h4, tk4, rfl, g4, fun G' gG' hG' => ⟨hjl, ?_, ?_⟩⟩
        · exact Paired.mono' (fun v ws ⟨a, us, e1, e3, e4⟩ => ⟨a, us, e1, gG'.list e3, e4⟩) j2
        · have snoc := Paired.snoc (F := fun v ws => ∃ (a : Addr) (vs : List Value), v = Value.ref a ∧ s.heap.get? a = none ∧ G'.IsList a vs.toArray ∧ IntsAre vs ws) (j3.mono gG') ⟨r2, _, rfl, gs''.size_none hr2, hl4.at fun o e => hG' _ _ (st''.fresh hr2) e, IntsAre.cons (xs.getD i 0) tx hui⟩
          have e2 : (ys''.push (Value.ref r2)).toList = ys''.toList ++ [Value.ref r2] := by simp
          rw [e2]
          rw [List.take_add_one, hw1]
          simpa [LsAt, List.append_assoc] using snoc
  · intro D' h' tk ys G hD' gG Gh acc gD hJ hk'
    exact hQ D' h' tk ys ((g1.trans g2).size_none hD') (gG.trans Gh) acc (hJ.2.mono Gh)
end
end Mine
end

-- Ord
section
open PySem PySem.W PySem.Calls PyProof.Rows
set_option Elab.async false
set_option maxRecDepth 100000
set_option maxHeartbeats 4000000
namespace Mine
theorem off_Ord : True := by w_top off; trivial

local macro_rules | `(tactic| walk_at "MINE enterC") => `(tactic| (refine' enterYC ?k1 ?k2 ?k3 ?k5 ?kA ?kF ?kK ?k6 ?k7 ?k8 ?k9 ?kB ?kD ?_ ?c2 ?c3 ?c4; (case kA => exact rfl); (case kF => exact rfl); (case kK => assumption); (case k1 => k_asm); (case k2 => k_asm); (case k3 => k_asm); (case k5 => k_asm); (case k6 => k_is); (case k7 => k_is); (case k8 => ktr_room); (case k9 => exact BindsTo.of_eq rfl); (case kB => exact rfl); (case kD => decide +kernel); (case c2 => exact rfl); (case c3 => exact rfl); (case c4 => exact rfl); k_whole; intro L' h' tk' cells' F' N' Y' B' X' T'; k_cells Y'; (try simp only [List.cons_append, List.nil_append] at N'); (try dsimp only); (try k_lift B'); (try k_fold)))
local macro_rules | `(tactic| k_room) => `(tactic| ktr_room)
local macro_rules | `(tactic| k_units) => `(tactic| ktr_units)

theorem ord_zero (w : World) (p : Program) (loose : List Str) (mean : ExcName → Option Value) (mg mb : Str → Option Value) : OrdCtr w p loose mean mg mb 0 12 := by
  intro l vs xs hxs hi
  have fill : Fill PySem.Challenge.rw_gm0005_01 Mine.hd.heap_39 := by k_fill; trivial
  clear fill
  obtain rfl : xs = [] := List.length_eq_zero_iff.mp hxs
  unfold Ctr
  intro dp un gd cn cs a ccd cl outer A₀ base h₀ L m s Q E B F X T hk hd hu hl hret
  obtain ⟨g, gens, drawn, toks, os⟩ := s
  dsimp only at *
  refine wpAny_call ?_
  k_dflt walk_at "MINE enterC"
  k_steps
  refine hret _ _ _ (Fr.keep (by assumption)) ?_
  have fin : ∀ {L9 a9 b9 : Addr} {h9 : Heap} {r9 : List (Addr × Obj)}, News g L9 h9 ((a9, listOf #[Value.ref b9] 0) :: (b9, listOf #[] 0) :: r9) →
      ∃ r items, Value.ref a9 = Value.ref r ∧ g.get? r = none ∧ h9.IsList r items ∧ LsAt g h9 items.toList (ordersN 0 []) := fun {L9 a9 b9 h9 r9} N9 =>
    ⟨a9, #[Value.ref b9], rfl, (N9 _ List.mem_cons_self).2.2, News.isList N9 List.mem_cons_self, .cons ⟨b9, [], rfl, (N9 _ (List.mem_cons_of_mem _ List.mem_cons_self)).2.2, News.isList N9 (List.mem_cons_of_mem _ List.mem_cons_self), .nil⟩ .nil⟩
  exact fin (by assumption)

theorem ord_succ (w : World) (p : Program) (loose : List Str) (mean : ExcName → Option Value) (mg mb : Str → Option Value) (n : Nat) (hn : n ≤ 3) (IH : OrdCtr w p loose mean mg mb n (12 + n)) : OrdCtr w p loose mean mg mb (n + 1) (12 + (n + 1)) := by
  intro l vs xs hxs hi
  have fill : Fill PySem.Challenge.rw_gm0005_01 Mine.hd.heap_39 := by k_fill; trivial
  clear fill
  obtain ⟨x, xr, rfl⟩ : ∃ x xr, xs = x :: xr := by
    cases xs with
    | nil => cases hxs
    | cons x xr => exact ⟨x, xr, rfl⟩
  unfold Ctr
  intro dp un gd cn cs a ccd cl outer A₀ base h₀ L m s Q E B F X T hk hd hu hl hret
  obtain ⟨g, gens, drawn, toks, os⟩ := s
  dsimp only at *
  refine wpAny_call ?_
  k_dflt walk_at "MINE enterC"
  k_steps
  · rename _ = true => hcc9
    exact absurd hcc9 (by simp)
  rename News _ _ _ _ => N9
  rename Fr _ _ _ _ => F9
  have hl9 := Grow.list F9.keep hl
  refine' ord_comp IH hn hxs ?B F9 ?X ?T ?hk ?hd ?hu N9 ?mN ?eN hl9 hi ?kN ?kR ?kL ?clN ?hclos ?hcell ?hkind ?hnames ?hx0 ?hx1 ?kn ?ko ?cnn ?hQ
  case B => k_asm
  case X => k_asm
  case T => k_asm
  case hk => exact rfl
  case hd => ktr_room
  case hu => ktr_units
  case hclos => with_unfolding_all rfl
  case clN => rfl
  case cnn => rfl
  case mN => k_mem
  case eN => k_asm
  case kN => rfl
  case kR => rfl
  case kL => rfl
  case hcell => decide
  case hkind => rfl
  case hnames => decide
  case hx0 => rfl
  case hx1 => rfl
  case kn => intro _; rfl
  case ko => intro _; rfl
  intro D9 h9 tk9 it9 fr9 g9 pl9 ls9
  have F8 := F9.keeps g9
  have N8 := N9.grown g9
  clear N9
  dsimp only at fr9 g9 ls9 ⊢
  k_steps
  have gg : Grow g h9 := Grow.trans F9.keep g9
  refine hret _ _ _ gg ⟨D9, it9, rfl, Grow.size_none F9.keep fr9, pl9.isList, ?_⟩
  exact Paired.mono' (fun _ _ ⟨a, vs, e1, e2, e3, e4⟩ => ⟨a, vs, e1, Grow.size_none F9.keep e2, e3, e4⟩) ls9

theorem orders_ctr (w : World) (p : Program) (loose : List Str) (mean : ExcName → Option Value) (mg mb : Str → Option Value) : ∀ n, n ≤ 4 → OrdCtr w p loose mean mg mb n (12 + n)
  | 0, _ => ord_zero w p loose mean mg mb
  | n + 1, h => ord_succ w p loose mean mg mb n (by omega) (orders_ctr w p loose mean mg mb n (by omega))
end Mine
end

-- BisB
section
open PySem PySem.W PySem.Calls PyProof.Rows
set_option Elab.async false
set_option maxRecDepth 100000
set_option maxHeartbeats 1000000
namespace Mine
theorem off_BisB : True := by w_top off; trivial

theorem binds_four {s : Shared} {fd : FuncData} {T Dk : Addr} {oT : Obj} {d1 d2 v1 v2 v3 v4 : Value} {n : Nat} {m : Str → Option Value} (hp : fd.params.posonlyargs = []) (ha : fd.params.args.map (·.arg) = [Str.ofString "a", Str.ofString "x", Str.ofString "lo", Str.ofString "hi"])
    (hkw : fd.params.kwonlyargs.map (·.arg) = [Str.ofString "key"]) (hv : fd.params.vararg = none) (hkwarg : fd.params.kwarg = none) (hd : fd.defaults = .ref T) (hT : s.heap.get? T = some oT) (hTd : oT.data = .seq #[d1, d2] n)
    (hk : fd.kwdefaults = .ref Dk) (hDk : s.heap.Ns Dk m) (hm : m (Str.ofString "key") = some .none) :
    BindsTo s fd ⟨[v1, v2, v3, v4], []⟩ [(Str.ofString "a", v1), (Str.ofString "x", v2), (Str.ofString "lo", v3), (Str.ofString "hi", v4), (Str.ofString "key", .none)] := by
  intro M A E Q hq
  unfold bindArgs
  simp only [hp, ha, hkw, hv, hkwarg, hd, hk, List.map_nil, List.nil_append, List.forIn_nil]
  refine wpAny_bind (wpAny_pure ?_)
  refine wpAny_bind (wpAny_seqItems hT hTd ?_)
  (with_unfolding_all show wpAny M A (if (false : Bool) = true then _ else _) Q E s)
  rw [if_neg Bool.false_ne_true]
  (with_unfolding_all show wpAny M A (if (false : Bool) = true then _ else _) Q E s)
  rw [if_neg Bool.false_ne_true]
  refine wpAny_bind (wpAny_of_eq (a := [(Str.ofString "a", v1), (Str.ofString "x", v2), (Str.ofString "lo", v3), (Str.ofString "hi", v4)]) (by with_unfolding_all rfl) ?_)
  refine wpAny_bind ?_
  simp only [List.forIn_cons, List.forIn_nil]
  refine wpAny_bind ?_
  (with_unfolding_all show wpAny M A (if (true : Bool) = true then _ else _) _ E s)
  rw [if_pos rfl]
  refine wpAny_bind (wpAny_nsGet hDk ?_)
  rw [hm]
  refine wpAny_pure ?_
  refine wpAny_pure ?_
  (with_unfolding_all show wpAny M A (if (false : Bool) = true then _ else _) _ E s)
  rw [if_neg Bool.false_ne_true]
  refine wpAny_pure ?_
  with_unfolding_all exact hq

theorem binds_two {s : Shared} {fd : FuncData} {T Dk : Addr} {oT : Obj} {v1 v2 v3 v4 : Value} {n : Nat} {m : Str → Option Value} (hp : fd.params.posonlyargs = []) (ha : fd.params.args.map (·.arg) = [Str.ofString "a", Str.ofString "x", Str.ofString "lo", Str.ofString "hi"])
    (hkw : fd.params.kwonlyargs.map (·.arg) = [Str.ofString "key"]) (hv : fd.params.vararg = none) (hkwarg : fd.params.kwarg = none) (hd : fd.defaults = .ref T) (hT : s.heap.get? T = some oT) (hTd : oT.data = .seq #[v3, v4] n)
    (hk : fd.kwdefaults = .ref Dk) (hDk : s.heap.Ns Dk m) (hm : m (Str.ofString "key") = some .none) :
    BindsTo s fd ⟨[v1, v2], []⟩ [(Str.ofString "a", v1), (Str.ofString "x", v2), (Str.ofString "lo", v3), (Str.ofString "hi", v4), (Str.ofString "key", .none)] := by
  intro M A E Q hq
  unfold bindArgs
  simp only [hp, ha, hkw, hv, hkwarg, hd, hk, List.map_nil, List.nil_append, List.forIn_nil]
  refine wpAny_bind (wpAny_pure ?_)
  refine wpAny_bind (wpAny_seqItems hT hTd ?_)
  (with_unfolding_all show wpAny M A (if (false : Bool) = true then _ else _) Q E s)
  rw [if_neg Bool.false_ne_true]
  (with_unfolding_all show wpAny M A (if (false : Bool) = true then _ else _) Q E s)
  rw [if_neg Bool.false_ne_true]
  refine wpAny_bind (wpAny_of_eq (a := [(Str.ofString "a", v1), (Str.ofString "x", v2), (Str.ofString "lo", v3), (Str.ofString "hi", v4)]) (by with_unfolding_all rfl) ?_)
  refine wpAny_bind ?_
  simp only [List.forIn_cons, List.forIn_nil]
  refine wpAny_bind ?_
  (with_unfolding_all show wpAny M A (if (true : Bool) = true then _ else _) _ E s)
  rw [if_pos rfl]
  refine wpAny_bind (wpAny_nsGet hDk ?_)
  rw [hm]
  refine wpAny_pure ?_
  refine wpAny_pure ?_
  (with_unfolding_all show wpAny M A (if (false : Bool) = true then _ else _) _ E s)
  rw [if_neg Bool.false_ne_true]
  refine wpAny_pure ?_
  with_unfolding_all exact hq

theorem ns_one {K : Frag} {h : Heap} (X : K.In h) {a : Addr} {hs : Int} {x : Str} {t : Tok} {v : Value} {n : Nat} (e : K.lookup a = some (dictOf [⟨hs, .str x t, v⟩] n)) :
    ∃ m, h.Ns a m ∧ m x = some v := by
  refine ⟨fun y => nsFind #[⟨hs, .str x t, v⟩] y, ⟨_, _, n, X _ _ e, rfl, ?_, fun _ => rfl⟩, ?_⟩
  · intro en hen
    simp at hen
    subst hen
    exact ⟨x, t, rfl⟩
  · simp [nsFind, findBy, Value.isStr]
end Mine
end

-- Bis
section
open PySem PySem.W PySem.Calls PyProof.Rows
set_option Elab.async false
set_option maxRecDepth 100000
set_option maxHeartbeats 4000000
namespace Mine
theorem off_Bis : True := by w_top off; trivial

local macro_rules | `(tactic| walk_at "MINE enterD") => `(tactic| (refine' enterY ?k1 ?k2 ?k3 ?k5 ?kA ?kF ?kK ?k6 ?k7 ?k8 ?k9 ?kB ?_ ?c2 ?c3 ?c4 ?c5; (case kA => exact rfl); (case kF => exact rfl); (case kK => assumption); (case k1 => k_asm); (case k2 => k_asm); (case k3 => k_asm); (case k5 => k_asm); (case k6 => k_is); (case k7 => k_is); (case k8 => ktr_room); (case k9 => exact binds_four rfl rfl rfl rfl rfl rfl (by assumption) rfl rfl (by assumption) (by assumption)); (case c5 => decide); (case kB => exact locs rfl); (case c2 => exact rfl); (case c3 => exact rfl); (case c4 => exact rfl); k_whole; intro L' h' F' N' B' X' T'; (try dsimp only); (try k_lift B'); (try k_fold)))
local macro_rules | `(tactic| k_room) => `(tactic| ktr_room)
local macro_rules | `(tactic| k_units) => `(tactic| ktr_units)

/-- the place that bisect_left finds -/
def bisN (ns : List Int) (x : Int) : Nat → Nat → Nat → Nat
  | 0, lo, _ => lo
  | f + 1, lo, hi => if lo < hi then (if ns.getD ((lo + hi) / 2) 0 < x then bisN ns x f ((lo + hi) / 2 + 1) hi else bisN ns x f lo ((lo + hi) / 2)) else lo
def bis (ns : List Int) (x : Int) : Nat := bisN ns x 4 0 ns.length

theorem bisect_0 (w : World) (p : Program) (loose : List Str) (mean : ExcName → Option Value) (mg mb : Str → Option Value) (l : Addr) (vs : List Value) (x : Int) (t t0 : Tok) (i1 : IntsAre vs []) :
    Ctr w (Mine.hd.heap_39 w.params) p loose mean mg mb 32 [.ref l, .int x t, .int 0 t0, .none] 5 (fun _ _ h => h.IsList l vs.toArray)
      (fun _ _ v => ∃ t, v = .int (bis [] x : Nat) t) := by
  have fill : Fill PySem.Challenge.rw_gm0005_01 Mine.hd.heap_39 := by k_fill; trivial
  clear fill
  unfold Ctr
  intro dp un gd cn cs a ccd cl outer A₀ base h₀ L m s Q E B F X T hk hd hu hl1 hret
  obtain ⟨g, gens, drawn, toks, os⟩ := s
  dsimp only at *
  have Xs := X.keeps F.keep
  obtain ⟨m9, hn9, hm9⟩ := ns_one Xs (a := 25) (x := Str.ofString "key") (v := .none) (by k_is)
  have hT9 : g.get? 24 = some _ := Xs 24 _ (by k_is)
  refine wpAny_call ?_
  k_dflt walk_at "MINE enterD"
  k_steps
  all_goals first
    | ( refine hret _ _ _ (Fr.keep (by assumption)) ⟨_, congrArg (Value.int · _) (?_ : (0 : Int) = _)⟩; simp [bis, bisN])

theorem bisect_1 (w : World) (p : Program) (loose : List Str) (mean : ExcName → Option Value) (mg mb : Str → Option Value) (l : Addr) (vs : List Value) (n0 : Int) (x : Int) (t t0 : Tok) (i1 : IntsAre vs [n0]) :
    Ctr w (Mine.hd.heap_39 w.params) p loose mean mg mb 32 [.ref l, .int x t, .int 0 t0, .none] 5 (fun _ _ h => h.IsList l vs.toArray)
      (fun _ _ v => ∃ t, v = .int (bis [n0] x : Nat) t) := by
  have fill : Fill PySem.Challenge.rw_gm0005_01 Mine.hd.heap_39 := by k_fill; trivial
  clear fill
  unfold Ctr
  intro dp un gd cn cs a ccd cl outer A₀ base h₀ L m s Q E B F X T hk hd hu hl1 hret
  obtain ⟨g, gens, drawn, toks, os⟩ := s
  dsimp only at *
  have Xs := X.keeps F.keep
  obtain ⟨m9, hn9, hm9⟩ := ns_one Xs (a := 25) (x := Str.ofString "key") (v := .none) (by k_is)
  have hT9 : g.get? 24 = some _ := Xs 24 _ (by k_is)
  refine wpAny_call ?_
  k_dflt walk_at "MINE enterD"
  k_steps
  all_goals first
    | (have c0 : n0 < x := (by assumption); refine hret _ _ _ (Fr.keep (by assumption)) ⟨_, congrArg (Value.int · _) (?_ : (1 : Int) = _)⟩; simp [bis, bisN, c0])
    | (have c0 : ¬ n0 < x := (by assumption); refine hret _ _ _ (Fr.keep (by assumption)) ⟨_, congrArg (Value.int · _) (?_ : (0 : Int) = _)⟩; simp [bis, bisN, c0])

theorem bisect_2 (w : World) (p : Program) (loose : List Str) (mean : ExcName → Option Value) (mg mb : Str → Option Value) (l : Addr) (vs : List Value) (n0 n1 : Int) (x : Int) (t t0 : Tok) (i1 : IntsAre vs [n0, n1]) :
    Ctr w (Mine.hd.heap_39 w.params) p loose mean mg mb 32 [.ref l, .int x t, .int 0 t0, .none] 5 (fun _ _ h => h.IsList l vs.toArray)
      (fun _ _ v => ∃ t, v = .int (bis [n0, n1] x : Nat) t) := by
  have fill : Fill PySem.Challenge.rw_gm0005_01 Mine.hd.heap_39 := by k_fill; trivial
  clear fill
  unfold Ctr
  intro dp un gd cn cs a ccd cl outer A₀ base h₀ L m s Q E B F X T hk hd hu hl1 hret
  obtain ⟨g, gens, drawn, toks, os⟩ := s
  dsimp only at *
  have Xs := X.keeps F.keep
  obtain ⟨m9, hn9, hm9⟩ := ns_one Xs (a := 25) (x := Str.ofString "key") (v := .none) (by k_is)
  have hT9 : g.get? 24 = some _ := Xs 24 _ (by k_is)
  refine wpAny_call ?_
  k_dflt walk_at "MINE enterD"
  k_steps
  all_goals first
    | (have c1 : n1 < x := (by assumption); refine hret _ _ _ (Fr.keep (by assumption)) ⟨_, congrArg (Value.int · _) (?_ : (2 : Int) = _)⟩; simp [bis, bisN, c1])
    | (have c1 : ¬ n1 < x := (by assumption); have c0 : n0 < x := (by assumption); refine hret _ _ _ (Fr.keep (by assumption)) ⟨_, congrArg (Value.int · _) (?_ : (1 : Int) = _)⟩; simp [bis, bisN, c1, c0])
    | (have c1 : ¬ n1 < x := (by assumption); have c0 : ¬ n0 < x := (by assumption); refine hret _ _ _ (Fr.keep (by assumption)) ⟨_, congrArg (Value.int · _) (?_ : (0 : Int) = _)⟩; simp [bis, bisN, c1, c0])

theorem bisect_3 (w : World) (p : Program) (loose : List Str) (mean : ExcName → Option Value) (mg mb : Str → Option Value) (l : Addr) (vs : List Value) (n0 n1 n2 : Int) (x : Int) (t t0 : Tok) (i1 : IntsAre vs [n0, n1, n2]) :
    Ctr w (Mine.hd.heap_39 w.params) p loose mean mg mb 32 [.ref l, .int x t, .int 0 t0, .none] 5 (fun _ _ h => h.IsList l vs.toArray)
      (fun _ _ v => ∃ t, v = .int (bis [n0, n1, n2] x : Nat) t) := by
  have fill : Fill PySem.Challenge.rw_gm0005_01 Mine.hd.heap_39 := by k_fill; trivial
  clear fill
  unfold Ctr
  intro dp un gd cn cs a ccd cl outer A₀ base h₀ L m s Q E B F X T hk hd hu hl1 hret
  obtain ⟨g, gens, drawn, toks, os⟩ := s
  dsimp only at *
  have Xs := X.keeps F.keep
  obtain ⟨m9, hn9, hm9⟩ := ns_one Xs (a := 25) (x := Str.ofString "key") (v := .none) (by k_is)
  have hT9 : g.get? 24 = some _ := Xs 24 _ (by k_is)
  refine wpAny_call ?_
  k_dflt walk_at "MINE enterD"
  k_steps
  all_goals first
    | (have c1 : n1 < x := (by assumption); have c2 : n2 < x := (by assumption); refine hret _ _ _ (Fr.keep (by assumption)) ⟨_, congrArg (Value.int · _) (?_ : (3 : Int) = _)⟩; simp [bis, bisN, c1, c2])
    | (have c1 : n1 < x := (by assumption); have c2 : ¬ n2 < x := (by assumption); refine hret _ _ _ (Fr.keep (by assumption)) ⟨_, congrArg (Value.int · _) (?_ : (2 : Int) = _)⟩; simp [bis, bisN, c1, c2])
    | (have c1 : ¬ n1 < x := (by assumption); have c0 : n0 < x := (by assumption); refine hret _ _ _ (Fr.keep (by assumption)) ⟨_, congrArg (Value.int · _) (?_ : (1 : Int) = _)⟩; simp [bis, bisN, c1, c0])
    | (have c1 : ¬ n1 < x := (by assumption); have c0 : ¬ n0 < x := (by assumption); refine hret _ _ _ (Fr.keep (by assumption)) ⟨_, congrArg (Value.int · _) (?_ : (0 : Int) = _)⟩; simp [bis, bisN, c1, c0])
end Mine
end

-- Ins
section
open PySem PySem.W PySem.Calls PyProof.Rows
set_option Elab.async false
set_option maxRecDepth 100000
set_option maxHeartbeats 4000000
namespace Mine
theorem off_Ins : True := by w_top off; trivial

local macro_rules | `(tactic| walk_at "MINE enterI") => `(tactic| (refine' code_def ?k1 ?k2 ?k3 ?k4 ?k5 ?kA ?kF ?kK ?k6 ?k7 ?k8 ?k9 ?kB ?_ ?c2 ?c3 ?c4 ?c5; (case kA => exact rfl); (case kF => exact rfl); (case kK => assumption); (case k1 => k_asm); (case k2 => k_asm); (case k3 => k_asm); (case k4 => k_asm); (case k5 => k_asm); (case k6 => k_is); (case k7 => k_is); (case k8 => ktr_room); (case k9 => exact binds_two rfl rfl rfl rfl rfl rfl (by assumption) rfl rfl (by assumption) (by assumption)); (case c5 => decide); (case kB => exact locs rfl); (case c2 => exact rfl); (case c3 => exact rfl); (case c4 => exact rfl); k_whole; intro g' L' h' FG' F' N' B' X' T'; (try dsimp only); (try k_lift B'); (try k_fold)))
local macro_rules | `(tactic| k_room) => `(tactic| ktr_room)
local macro_rules | `(tactic| k_units) => `(tactic| ktr_units)

theorem Ctr.useI {w : World} {K : Frag} {p : Program} {loose : List Str} {mean : ExcName → Option Value} {mg mb : Str → Option Value} {f : Addr} {vs : List Value} {d : Nat} {P : Heap → Addr → Heap → Prop} {r : Int}
    {dp un : Nat} {gd : Option (List Code)} {cn : Str} {cs : Scope} {a : Addr} {ccd : Value} {cl : List (Str × Addr)} {outer : List Env} {A₀ : Around} {base h₀ : Heap} {L : Addr} {m : Str → Option Value} {news : List (Addr × Obj)} {s : Shared} {Q E : Value → Shared → Prop}
    (B : Below A₀ base outer h₀) (F : Fr h₀ L s.heap m) (X : K.In h₀) (N : News h₀ L s.heap news) (T : Top p loose mean mg mb h₀) (C : Ctr w K p loose mean mg mb f vs d P (fun _ _ v => ∃ t, v = .int r t)) (hk : cs.kind = .function) (hd : dp + d < recursionLimit) (hu : un + 8 * d < cLine) (hP : P h₀ L s.heap)
    (ret : ∀ t h' tk', Fr h₀ L h' m → News h₀ L h' news → Q (.int r t) { s with heap := h', toks := tk' }) :
    wpAny (model PR w) (ktrTop dp un gd cn cs L a ccd cl outer) (call (.ref f) vs) Q E s :=
  Ctr.use B F X N T C hk hd hu hP fun v h' tk' F' N' _ ⟨t, e⟩ => e ▸ ret t h' tk' F' N'
theorem Ctr.useB {w : World} {K : Frag} {p : Program} {loose : List Str} {mean : ExcName → Option Value} {mg mb : Str → Option Value} {f : Addr} {vs : List Value} {d : Nat} {P : Heap → Addr → Heap → Prop} {r : Bool}
    {dp un : Nat} {gd : Option (List Code)} {cn : Str} {cs : Scope} {a : Addr} {ccd : Value} {cl : List (Str × Addr)} {outer : List Env} {A₀ : Around} {base h₀ : Heap} {L : Addr} {m : Str → Option Value} {news : List (Addr × Obj)} {s : Shared} {Q E : Value → Shared → Prop}
    (B : Below A₀ base outer h₀) (F : Fr h₀ L s.heap m) (X : K.In h₀) (N : News h₀ L s.heap news) (T : Top p loose mean mg mb h₀) (C : Ctr w K p loose mean mg mb f vs d P (fun _ _ v => v = .bool r)) (hk : cs.kind = .function) (hd : dp + d < recursionLimit) (hu : un + 8 * d < cLine) (hP : P h₀ L s.heap)
    (ret : ∀ h' tk', Fr h₀ L h' m → News h₀ L h' news → Q (.bool r) { s with heap := h', toks := tk' }) :
    wpAny (model PR w) (ktrTop dp un gd cn cs L a ccd cl outer) (call (.ref f) vs) Q E s :=
  Ctr.use B F X N T C hk hd hu hP fun v h' tk' F' N' _ e => e ▸ ret h' tk' F' N'

/-- bisect_left on this list hands back pos -/
def BisOk (w : World) (p : Program) (loose : List Str) (mean : ExcName → Option Value) (mg mb : Str → Option Value) (l : Addr) (vs : List Value) (x : Int) (t : Tok) (pos : Nat) : Prop :=
  ∀ t0, Ctr w (Mine.hd.heap_39 w.params) p loose mean mg mb 32 [.ref l, .int x t, .int 0 t0, .none] 5 (fun _ _ h => h.IsList l vs.toArray) (fun _ _ v => ∃ t, v = .int (pos : Nat) t)

local macro_rules | `(tactic| walk_at "call ref") => `(tactic| (k_here; (with_reducible show wpAny _ _ (call (Value.ref 32) _) _ _ _); (rename BisOk _ _ _ _ _ _ _ _ _ _ _ => bO); k_dflt (refine' Ctr.useI ?k1 ?k2 ?k3 ?k4 ?k5 (bO _) ?k6 ?k7 ?k8 ?k9 ?_; (case k1 => k_asm); (case k2 => k_asm); (case k3 => k_asm); (case k4 => k_asm); (case k5 => k_asm); (case k6 => exact rfl); (case k7 => ktr_room); (case k8 => ktr_units); (case k9 => (rename News _ _ _ _ => nN); (rename (_, listOf _ _) ∈ _ => hM); exact ⟨_, (nN _ hM).1, rfl, _, rfl⟩); k_whole; intro t9 h9 tk9 F9 N9; (try k_fold))))
local macro_rules | `(tactic| walk_at "getMethod ref") => `(tactic| (k_here; (with_reducible show wpAny _ _ (getMethod (Value.ref _) (PySem.Str.ofString "insert") _) _ _ _); (rename (_, listOf _ _) ∈ _ => hM); k_dflt (refine' kl_method ?N ?m PySem.F.slot_list_insert PySem.F.type_list_insert ?_; (case N => k_asm); (case m => exact hM))))
local macro_rules | `(tactic| walk_at "call builtin:list.insert") => `(tactic| (k_here; (with_reducible show wpAny _ _ (call (Value.builtin _) [Value.ref _, Value.int _ _, _]) _ _ _); (rename Upd _ _ _ _ _ => hU); (rename List.length _ ≤ sizeLine => hZ); (rename Builtin.List.listFitsIndex _ = true => hF); k_dflt (refine' kl_insert ?F ?N ?f ?e ?U ?z ?_; (case F => k_asm); (case N => k_asm); (case U => exact hU); (case f => exact hF); (case e => exact rfl); (case z => exact hZ)); kl_rest))

theorem insort_ctr (w : World) (p : Program) (loose : List Str) (mean : ExcName → Option Value) (mg mb : Str → Option Value) (l : Addr) (vs : List Value) (c : Nat) (x : Int) (t : Tok) (pos : Nat) (led led' : List (Addr × Obj))
    (bO : BisOk w p loose mean mg mb l vs x t pos) (hp : Builtin.List.listFitsIndex (pos : Int) = true) (hz : vs.length ≤ sizeLine)
    (U : Upd l (listOf vs.toArray c) (listOf (kl_ins vs (pos : Int) (.int x t)).toArray (c + 1)) led led')
    (dp un : Nat) (gd : Option (List Code)) (cn : Str) (cs : Scope) (a : Addr) (ccd : Value) (cl : List (Str × Addr)) (outer : List Env) (A₀ : Around) (base h₀ : Heap) (L : Addr) (m : Str → Option Value) (s : Shared) (Q E : Value → Shared → Prop)
    (B : Below A₀ base outer h₀) (F : Fr h₀ L s.heap m) (X : (Mine.hd.heap_39 w.params).In h₀) (T : Top p loose mean mg mb h₀) (N : News h₀ L s.heap led) (hk : cs.kind = .function) (hd : dp + 6 < recursionLimit) (hu : un + 8 * 6 < cLine)
    (hret : ∀ h' tk', Fr h₀ L h' m → News h₀ L h' led' → Q .none { s with heap := h', toks := tk' }) :
    wpAny (model PR w) (ktrTop dp un gd cn cs L a ccd cl outer) (call (.ref 23) [.ref l, .int x t]) Q E s := by
  have fill : Fill PySem.Challenge.rw_gm0005_01 Mine.hd.heap_39 := by k_fill; trivial
  clear fill
  obtain ⟨g, gens, drawn, toks, os⟩ := s
  dsimp only at *
  have hM : (l, listOf vs.toArray c) ∈ led := by
    obtain ⟨pre, post, rfl, rfl, _, _⟩ := U.split
    simp
  have Xs := X.keeps F.keep
  obtain ⟨m9, hn9, hm9⟩ := ns_one Xs (a := 16) (x := "key") (v := .none) (by k_is)
  have hT9 : g.get? 15 = some _ := Xs 15 _ (by k_is)
  refine wpAny_call ?_
  k_dflt walk_at "MINE enterI"
  k_steps
  exact hret _ _ (by assumption) (by assumption)
end Mine
end

-- LC
section
open PySem PySem.W PySem.Calls PyProof.Rows
set_option Elab.async false
set_option maxRecDepth 100000
set_option maxHeartbeats 2000000
namespace Mine
theorem off_LC : True := by w_top off; trivial

theorem ints_of_paired {f : Int → Int} : ∀ {vs : List Value} {ns : List Int} {ys : List Value}, IntsAre vs ns → Paired (fun v y => ∀ n t, v = .int n t → ∃ t', y = .int (f n) t') vs ys → IntsAre ys (ns.map f)
  | _, _, _, .nil, .nil => .nil
  | _, _, _, .cons n t i, .cons h p => by
    obtain ⟨t', rfl⟩ := h n t rfl
    exact .cons _ _ (ints_of_paired i p)
section
variable {prog : Program} {w : World} {A : Around} {E : Value → Shared → Prop} {env : Env} {s : Shared}

/-- a comprehension over a list of ints whose element is an int -/
theorem intComp {elt iter : PySem.Expr} {x : Str} {px : Pos} {scope : Scope} {cl : List (Str × Addr)} {pos : Pos} {Q : Value → Shared → Prop} {ns : List Int} (f : Int → Int) (hh : A.handled = none)
    (hclos : closureFor scope env = pure cl) (hcell : ∀ y ∈ scope.names, y.2 ≠ .cell) (hkind : scope.kind = .function)
    (hnames : ∀ y ∈ scope.names, y.2 = .local → scope.names.lookup y.1 = some .local) (hx : scope.names.lookup x = some .local) (hsz : ns.length ≤ 1000)
    (hit : wpAny (model prog w) A (eval iter env) (fun xv s₁ => ∃ l vs h₁ tk, xv = .ref l ∧ s₁ = { s with heap := h₁, toks := tk } ∧ Grow s.heap h₁ ∧ h₁.IsList l vs.toArray ∧ IntsAre vs ns) E s)
    (hel : ∀ C n t s₃ m₃ E', n ∈ ns → s₃.heap.Ns C m₃ → m₃ x = some (.int n t) → wpAny (model prog w) A (eval elt (compEnvC scope cl C env)) (fun y s₄ => (∃ t', y = .int (f n) t') ∧ Keeps s₃ s₄) E' s₃)
    (hQ : ∀ D h' tk' ys, s.heap.get? D = none → Grow s.heap h' → h'.PlainList D ys → IntsAre ys.toList (ns.map f) → Q (.ref D) { s with heap := h', toks := tk' })
    (hs : ∀ x, foldedSetIterable iter env x = pure x := by intro _; rfl) :
    wpAny (model prog w) A (eval (.ListComp elt [⟨.Name x px, iter, [], 0⟩] scope pos) env) Q E s := by
  refine wpAny_ListComp_free (fun _ => true) (fun v y => ∀ n t, v = .int n t → ∃ t', y = .int (f n) t') hclos hcell hkind hnames hx (wpAny_mono hit (fun xv s₁ h1 => ?_) fun _ _ e => e) hs
  obtain ⟨l, vs, h₁, tk, rfl, rfl, gr, hl, hi⟩ := h1
  refine wpAny_pyIter_list hl ?_
  have hlt : l < h₁.objs.size := by obtain ⟨_, e, _⟩ := hl; exact Heap.lt_size e
  have old : ∀ b o, h₁.get? b = some o → (h₁.push { cls := .type "list_iterator", data := .fields #[.ref l, .int 0 0] }).get? b = some o := fun b o e => Heap.get?_push_of_some _ e
  refine ⟨h₁.objs.size, [h₁.objs.size, l], [h₁.objs.size], _, _, _, rfl, Walks.list hh h₁.objs.size l (Nat.ne_of_lt hlt) vs.toArray, ?_, ⟨⟨_, Heap.get?_push_size _ rfl, rfl, rfl⟩, hl.at fun o e => old _ _ e⟩, ?_, ⟨?_, ?_⟩, ?_⟩
  · rw [List.size_toArray, hi.length, sizeLine_eq]; omega
  · intro b hb
    dsimp only
    rw [Heap.size_push]
    rcases List.mem_cons.mp hb with rfl | hb
    · exact Nat.lt_succ_self _
    · rw [List.mem_singleton.mp hb]; exact Nat.lt_succ_of_lt hlt
  · intro C i v s₃ m₃ E' hC hP hn hm hk htk
    simp only [List.forIn_nil]
    exact wpAny_pure ⟨rfl, _, _, rfl, fun _ _ e => e⟩
  · intro C i v s₃ m₃ E' hC hP _ hn hm hk htk
    obtain ⟨n, t, rfl, hj⟩ := ints_get hi (by simpa using hP)
    refine wpAny_mono (hel C n t s₃ m₃ E' (List.mem_of_getElem? hj) hn hm) (fun y s₄ h4 => ⟨fun n' t' e => ?_, h4.2⟩) fun _ _ e => e
    cases e
    exact h4.1
  · intro D h' tk' ys us hD hD1 hD2 hlen hP hF hk
    have gr' : Grow s.heap h' := fun b o e => by
      refine hk b o ?_ (old _ _ (gr _ _ e))
      intro hb
      rw [List.mem_singleton] at hb
      have := Heap.lt_size (gr _ _ e)
      rw [hb] at this
      exact absurd this (Nat.lt_irrefl _)
    have hus : us = vs := by
      apply List.ext_getElem?
      intro j
      cases q : us[j]? with
      | some v => have := hP j v q; simpa using this.symm
      | none =>
        have h2 : us.length ≤ j := by simpa using q
        have h3 : vs.length ≤ j := by rw [hlen] at h2; simpa using h2
        exact (List.getElem?_eq_none h3).symm
    subst hus
    have hF' : Paired (fun v y => ∀ n t, v = .int n t → ∃ t', y = .int (f n) t') us ys.toList := by
      have e : us.filter (fun _ => true) = us := List.filter_eq_self.mpr fun _ _ => rfl
      rw [e] at hF
      exact hF
    refine hQ D h' tk' ys ?_ gr' hD2 (ints_of_paired hi hF')
    have g2 : Grow s.heap (h₁.push { cls := .type "list_iterator", data := .fields #[.ref l, .int 0 0] }) := gr.trans fun b o e => old b o e
    exact g2.size_none hD

/-- the same, stored in a local name -/
theorem intCompTo {elt iter : PySem.Expr} {x y : Str} {px py : Pos} {scope : Scope} {cl : List (Str × Addr)} {pos spos : Pos} {Q : Flow → Shared → Prop} {ns : List Int} {m : Str → Option Value} (f : Int → Int) (hh : A.handled = none)
    (hsw : swapsWith (.ListComp elt [⟨.Name x px, iter, [], 0⟩] scope pos) (some (.Name y py)) spos.line env = pure true)
    (hy : env.kindOf y = some .local) (hp : (env.scope.kind == .class || (env.scope.kind == .module && env.locals != env.globals)) = false)
    (hclos : closureFor scope env = pure cl) (hcell : ∀ y ∈ scope.names, y.2 ≠ .cell) (hkind : scope.kind = .function)
    (hnames : ∀ y ∈ scope.names, y.2 = .local → scope.names.lookup y.1 = some .local) (hx : scope.names.lookup x = some .local) (hsz : ns.length ≤ 1000) (hn0 : s.heap.Ns env.locals m)
    (hit : wpAny (model prog w) A (eval iter env) (fun xv s₁ => ∃ l vs h₁ tk, xv = .ref l ∧ s₁ = { s with heap := h₁, toks := tk } ∧ Grow s.heap h₁ ∧ h₁.IsList l vs.toArray ∧ IntsAre vs ns) E s)
    (hel : ∀ C n t s₃ m₃ E', n ∈ ns → s₃.heap.Ns C m₃ → m₃ x = some (.int n t) → wpAny (model prog w) A (eval elt (compEnvC scope cl C env)) (fun y s₄ => (∃ t', y = .int (f n) t') ∧ Keeps s₃ s₄) E' s₃)
    (hQ : ∀ D h' tk' ys, s.heap.get? D = none → (∀ b o, b ≠ env.locals → s.heap.get? b = some o → h'.get? b = some o) → h'.Ns env.locals (fun z => if z = y then some (.ref D) else m z) → h'.PlainList D ys → IntsAre ys.toList (ns.map f) → Q .next { s with heap := h', toks := tk' })
    (hs : ∀ x, foldedSetIterable iter env x = pure x := by intro _; rfl) :
    wpAny (model prog w) A (exec (.Assign [.Name y py] (.ListComp elt [⟨.Name x px, iter, [], 0⟩] scope pos) spos) env) Q E s := by
  refine wpAny_Assign_ListComp_free (fun _ => true) (fun v y => ∀ n t, v = .int n t → ∃ t', y = .int (f n) t') hsw hclos hcell hkind hnames hx hy hp (wpAny_mono hit (fun xv s₁ h1 => ?_) fun _ _ e => e) hs
  obtain ⟨l, vs, h₁, tk, rfl, rfl, gr, hl, hi⟩ := h1
  refine wpAny_pyIter_list hl ?_
  have hlt : l < h₁.objs.size := by obtain ⟨_, e, _⟩ := hl; exact Heap.lt_size e
  have old : ∀ b o, h₁.get? b = some o → (h₁.push { cls := .type "list_iterator", data := .fields #[.ref l, .int 0 0] }).get? b = some o := fun b o e => Heap.get?_push_of_some _ e
  have hLlt : env.locals < h₁.objs.size := by obtain ⟨_, _, _, e, _⟩ := hn0; exact Heap.lt_size (gr _ _ e)
  refine ⟨h₁.objs.size, [h₁.objs.size, l], [h₁.objs.size], _, _, _, m, rfl, Walks.list hh h₁.objs.size l (Nat.ne_of_lt hlt) vs.toArray, ?_, ⟨⟨_, Heap.get?_push_size _ rfl, rfl, rfl⟩, hl.at fun o e => old _ _ e⟩, ?_, ?_, ?_, ⟨?_, ?_⟩, ?_⟩
  · rw [List.size_toArray, hi.length, sizeLine_eq]; omega
  · intro b hb
    dsimp only
    rw [Heap.size_push]
    rcases List.mem_cons.mp hb with rfl | hb
    · exact Nat.lt_succ_self _
    · rw [List.mem_singleton.mp hb]; exact Nat.lt_succ_of_lt hlt
  · rw [List.mem_singleton]; exact Nat.ne_of_lt hLlt
  · exact (hn0.keeps gr).keeps old
  · intro C i v s₃ m₃ E' hC hP hn hm hk htk
    simp only [List.forIn_nil]
    exact wpAny_pure ⟨rfl, _, _, rfl, fun _ _ e => e⟩
  · intro C i v s₃ m₃ E' hC hP _ hn hm hk htk
    obtain ⟨n, t, rfl, hj⟩ := ints_get hi (by simpa using hP)
    refine wpAny_mono (hel C n t s₃ m₃ E' (List.mem_of_getElem? hj) hn hm) (fun y s₄ h4 => ⟨fun n' t' e => ?_, h4.2⟩) fun _ _ e => e
    cases e
    exact h4.1
  · intro D h' tk' ys us hD hD1 hD2 hlen hP hF hns hk
    have hus : us = vs := by
      apply List.ext_getElem?
      intro j
      cases q : us[j]? with
      | some v => have := hP j v q; simpa using this.symm
      | none =>
        have h2 : us.length ≤ j := by simpa using q
        have h3 : vs.length ≤ j := by rw [hlen] at h2; simpa using h2
        exact (List.getElem?_eq_none h3).symm
    subst hus
    have hF' : Paired (fun v y => ∀ n t, v = .int n t → ∃ t', y = .int (f n) t') us ys.toList := by
      have e : us.filter (fun _ => true) = us := List.filter_eq_self.mpr fun _ _ => rfl
      rw [e] at hF
      exact hF
    have g2 : Grow s.heap (h₁.push { cls := .type "list_iterator", data := .fields #[.ref l, .int 0 0] }) := gr.trans fun b o e => old b o e
    refine hQ D h' tk' ys (g2.size_none hD) (fun b o hb e => ?_) hns hD2 (ints_of_paired hi hF')
    refine hk b o hb ?_ (g2 _ _ e)
    intro hb
    rw [List.mem_singleton] at hb
    have := Heap.lt_size (gr _ _ e)
    rw [hb] at this
    exact absurd this (Nat.lt_irrefl _)

/-- number % 19 - 9 -/
theorem mod_elt {C : Addr} {n : Int} {t : Tok} {m : Str → Option Value} {cenv : Env} {E : Value → Shared → Prop} {p1 p2 p3 p4 p5 : Pos} (hC : s.heap.Ns cenv.locals m) (hm : m "number" = some (.int n t)) (hk : cenv.scope.kind = .function) (hx : cenv.kindOf "number" = some .local) :
    wpAny (model prog w) A (eval (.BinOp (.BinOp (.Name "number" p1) .Mod (.Constant (.int 19) 0 p2) p3) .Sub (.Constant (.int 9) 0 p4) p5) cenv) (fun y s₄ => (∃ t', y = .int (n.fmod 19 - 9) t') ∧ Keeps s s₄) E s := by
  refine wpAny_BinOp ?_
  refine wpAny_BinOp ?_
  refine name_loc hC hm hk hx ?_
  refine wpAny_Constant_int ?_
  refine mod_int (by decide) ?_
  refine wpAny_Constant_int ?_
  refine sub_int ?_
  exact ⟨⟨_, rfl⟩, _, _, rfl, fun _ _ e => e⟩
/-- number + 3 -/
theorem plus_elt {C : Addr} {n : Int} {t : Tok} {m : Str → Option Value} {cenv : Env} {E : Value → Shared → Prop} {p1 p2 p3 : Pos} (hC : s.heap.Ns cenv.locals m) (hm : m "number" = some (.int n t)) (hk : cenv.scope.kind = .function) (hx : cenv.kindOf "number" = some .local) :
    wpAny (model prog w) A (eval (.BinOp (.Name "number" p1) .Add (.Constant (.int 3) 0 p2) p3) cenv) (fun y s₄ => (∃ t', y = .int (n + 3) t') ∧ Keeps s s₄) E s := by
  refine wpAny_BinOp ?_
  refine name_loc hC hm hk hx ?_
  refine wpAny_Constant_int ?_
  refine add_int ?_
  exact ⟨⟨_, rfl⟩, _, _, rfl, fun _ _ e => e⟩
end
end Mine
end

-- LS
section
open PySem PySem.W PySem.Calls PyProof.Rows
set_option Elab.async false
set_option maxRecDepth 100000
set_option maxHeartbeats 2000000
namespace Mine
theorem off_LS : True := by w_top off; trivial

def Bnd (xs : List Int) : Prop := ∀ x ∈ xs, -100 ≤ x ∧ x ≤ 100
theorem Bnd.tail {x : Int} {xs : List Int} (h : Bnd (x :: xs)) : Bnd xs := fun y hy => h y (List.mem_cons_of_mem _ hy)
theorem Bnd.head {x : Int} {xs : List Int} (h : Bnd (x :: xs)) : -100 ≤ x ∧ x ≤ 100 := h x List.mem_cons_self

def SumCtr (w : World) (p : Program) (loose : List Str) (mean : ExcName → Option Value) (mg mb : Str → Option Value) (vs1 vs2 : List Value) (xs ys : List Int) : Prop := ∀ l1 l2,
    Ctr w (Mine.hd.heap_39 w.params) p loose mean mg mb 86 [.ref l1, .ref l2] 5 (fun _ _ h => h.IsList l1 vs1.toArray ∧ h.IsList l2 vs2.toArray) (fun _ _ v => ∃ t, v = .int (dot xs ys) t)
def AgCtr (w : World) (p : Program) (loose : List Str) (mean : ExcName → Option Value) (mg mb : Str → Option Value) (vs1 vs2 : List Value) (xs ys : List Int) : Prop := ∀ l1 l2,
    Ctr w (Mine.hd.heap_39 w.params) p loose mean mg mb 91 [.ref l1, .ref l2] 12 (fun _ _ h => h.IsList l1 vs1.toArray ∧ h.IsList l2 vs2.toArray) (fun _ _ v => v = .bool (agP (xs.zip ys)))

theorem law_sum (w : World) (p : Program) (loose : List Str) (mean : ExcName → Option Value) (mg mb : Str → Option Value) {vs1 vs2 : List Value} {xs ys : List Int} (i1 : IntsAre vs1 xs) (i2 : IntsAre vs2 ys) (hlen : ys.length = xs.length) (h4 : xs.length ≤ 4) (b1 : Bnd xs) (b2 : Bnd ys) :
    SumCtr w p loose mean mg mb vs1 vs2 xs ys :=
  fun l1 l2 => law_sum_gen w p loose mean mg mb l1 l2 vs1 vs2 xs ys i1 i2 hlen h4 b1 b2

theorem law_against (w : World) (p : Program) (loose : List Str) (mean : ExcName → Option Value) (mg mb : Str → Option Value) {vs1 vs2 : List Value} {xs ys : List Int} (i1 : IntsAre vs1 xs) (i2 : IntsAre vs2 ys) (hlen : ys.length = xs.length) (h4 : xs.length ≤ 4) :
    AgCtr w p loose mean mg mb vs1 vs2 xs ys :=
  fun l1 l2 => against_gen w p loose mean mg mb l1 l2 vs1 vs2 xs ys i1 i2 hlen h4
end Mine
end

-- Pk
section
open PySem PySem.W PySem.Calls PyProof.Rows
set_option Elab.async false
set_option maxRecDepth 100000
set_option maxHeartbeats 2000000
namespace Mine
theorem off_Pk : True := by w_top off; trivial
theorem filterMap_len {α β : Type} {f : α → Option β} : ∀ {l : List α}, (∀ x ∈ l, (f x).isSome = true) → (l.filterMap f).length = l.length
  | [], _ => rfl
  | x :: r, h => by
    have h1 := h x List.mem_cons_self
    obtain ⟨y, hy⟩ := Option.isSome_iff_exists.mp h1
    rw [List.filterMap_cons_some hy, List.length_cons, List.length_cons, filterMap_len fun z hz => h z (List.mem_cons_of_mem _ hz)]
theorem pick_even {ns : List Int} {m : Nat} (h : 2 * m ≤ ns.length) : (pickNums ns none (some (2 * (m : Int))) (some 2)).length = m := by
  have hb : sliceBounds none (some (2 * (m : Int))) (some 2) ns.length = (0, 2 * (m : Int), 2) := by
    simp only [sliceBounds]
    simp
    omega
  unfold pickNums
  rw [hb]
  dsimp only
  rw [filterMap_len]
  · unfold sliceRange
    simp only [List.length_map, List.length_range]
    by_cases h0 : m = 0
    · subst h0; decide
    · rw [if_pos (by decide), if_pos (by omega)]
      omega
  · intro x hx
    unfold sliceRange at hx
    obtain ⟨k, hk, rfl⟩ := List.mem_map.mp hx
    rw [List.mem_range] at hk
    rw [if_pos (by decide)] at hk
    have : (0 + 2 * (k : Int)).toNat < ns.length := by
      split at hk <;> omega
    rw [List.getElem?_eq_getElem this]; rfl
theorem pick_odd {ns : List Int} {m : Nat} (h : 2 * m ≤ ns.length) : (pickNums ns (some 1) (some (2 * (m : Int))) (some 2)).length = m := by
  by_cases h0 : m = 0
  · subst h0
    unfold pickNums
    apply List.length_eq_zero_iff.mpr
    have : sliceRange (sliceBounds (some 1) (some (2 * ((0 : Nat) : Int))) (some 2) ns.length).1 (sliceBounds (some 1) (some (2 * ((0 : Nat) : Int))) (some 2) ns.length).2.1 (sliceBounds (some 1) (some (2 * ((0 : Nat) : Int))) (some 2) ns.length).2.2 = [] := by
      unfold sliceRange
      simp only [sliceBounds]
      simp
      split <;> omega
    rw [this]
    rfl
  have hb : sliceBounds (some 1) (some (2 * (m : Int))) (some 2) ns.length = (1, 2 * (m : Int), 2) := by
    simp only [sliceBounds]
    simp
    omega
  unfold pickNums
  rw [hb]
  dsimp only
  rw [filterMap_len]
  · unfold sliceRange
    simp only [List.length_map, List.length_range]
    rw [if_pos (by decide), if_pos (by omega)]
    omega
  · intro x hx
    unfold sliceRange at hx
    obtain ⟨k, hk, rfl⟩ := List.mem_map.mp hx
    rw [List.mem_range] at hk
    rw [if_pos (by decide)] at hk
    have : (1 + 2 * (k : Int)).toNat < ns.length := by
      split at hk <;> omega
    rw [List.getElem?_eq_getElem this]; rfl
end Mine
end

-- SegA
section
open PySem PySem.W PySem.Calls PyProof.Rows
set_option Elab.async false
set_option maxRecDepth 100000
set_option maxHeartbeats 8000000
namespace Mine
theorem off_SegA : True := by w_top off; trivial
def lawBody : List Stmt := match PR.main.body with
  | [_, _, _, _, _, _, _, _, _, _, _, .FunctionDef _ _ b _ _ _ _ _ _ _] => b
  | _ => []
def lawScope : Scope := match PR.main.body with
  | [_, _, _, _, _, _, _, _, _, _, _, .FunctionDef _ _ _ _ _ _ sc _ _ _] => sc
  | _ => default
/-- a local name is stored, a new list stands -/
theorem put_list {h₀ h h' : Heap} {L D : Addr} {m m' : Str → Option Value} {led : List (Addr × Obj)} {ys : Array Value} (F : Fr h₀ L h m) (N : News h₀ L h led) (hD : h.get? D = none) (hk : ∀ b o, b ≠ L → h.get? b = some o → h'.get? b = some o) (hn : h'.Ns L m') (pl : h'.PlainList D ys) :
    Fr h₀ L h' m' ∧ ∃ c, News h₀ L h' ((D, listOf ys c) :: led) := by
  have hL : ∀ b o, h₀.get? b = some o → b ≠ L := fun b o e q => by
    have := Heap.lt_size e
    rw [q] at this
    exact absurd (Nat.lt_of_lt_of_le this F.above) (Nat.lt_irrefl _)
  refine ⟨⟨hn, fun b o e => hk b o (hL b o e) (F.keep b o e), F.above⟩, ?_⟩
  obtain ⟨n, e⟩ := pl
  refine ⟨n, fun p hp => ?_⟩
  rcases List.mem_cons.mp hp with rfl | hp
  · refine ⟨e, fun q => ?_, ?_⟩
    · obtain ⟨o, _, _, ho, _⟩ := F.ns
      have hD' : h.get? L = none := q ▸ hD
      rw [hD'] at ho; cases ho
    · cases q : h₀.get? D with
      | none => rfl
      | some o => rw [F.keep _ _ q] at hD; cases hD
  · exact ⟨hk _ _ (N p hp).2.1 (N p hp).1, (N p hp).2⟩
theorem ne_of_led {h₀ h : Heap} {L D : Addr} {led : List (Addr × Obj)} (N : News h₀ L h led) (hD : h.get? D = none) {a : Addr} {o : Obj} (hm : (a, o) ∈ led) : (D : Nat) ≠ (a : Nat) := fun q => by
  have e9 := (N (a, o) hm).1
  have hD' : h.get? a = none := q ▸ hD
  rw [hD'] at e9; cases e9
def Small (xs : List Int) : Prop := ∀ x ∈ xs, -9 ≤ x ∧ x ≤ 9
theorem small_mod (xs : List Int) : Small (xs.map fun n => n.fmod 19 - 9) := by
  intro x hx
  obtain ⟨n, _, rfl⟩ := List.mem_map.mp hx
  have h1 := Int.fmod_nonneg_of_pos n (b := 19) (by decide)
  have h2 := Int.fmod_lt_of_pos n (b := 19) (by decide)
  omega

/-- names of the law after its first three rows -/
def mA (lS D2 : Addr) (M : Nat) (tkM : Tok) : Str → Option Value := fun y => if y = "other" then some (.ref D2) else if y = "many" then some (.int (M : Int) tkM) else if y = "script" then some (.ref lS) else none

local macro_rules | `(tactic| k_room) => `(tactic| ktr_room)
local macro_rules | `(tactic| k_units) => `(tactic| ktr_units)
local macro_rules | `(tactic| walk_at "eval ListComp") => `(tactic| (k_here; (with_reducible show wpAny _ _ (eval (PySem.Expr.ListComp _ _ _ _) _) _ _ _); refine stop ?_))
local macro_rules | `(tactic| walk_at "exec Assign cons ListComp") => `(tactic| (k_here; (with_reducible show wpAny _ _ (exec (PySem.Stmt.Assign [PySem.Expr.Name (Str.ofString "other") _] (PySem.Expr.ListComp _ _ _ _) _) _) _ _ _); refine stop ?_))
theorem segA (w : World) (p : Program) (loose : List Str) (mean : ExcName → Option Value) (mg mb : Str → Option Value) (lS : Addr) (vsS : List Value) (xs : List Int) (oC : Obj)
    (dp un : Nat) (gd : Option (List Code)) (a : Addr) (ccd : Value) (outer : List Env) (A₀ : Around) (base h₀ : Heap) (L : Addr) (s : Shared) (Q : Flow → Shared → Prop) (E : Value → Shared → Prop)
    (B : Below A₀ base outer h₀) (F : Fr h₀ L s.heap (fun y => if y = "script" then some (.ref lS) else none)) (X : (Mine.hd.heap_39 w.params).In h₀) (T : Top p loose mean mg mb h₀) (N : News h₀ L s.heap [(L + 1, oC)]) (hc : oC.data = .cell none)
    (hl : h₀.IsList lS vsS.toArray) (hi : IntsAre vsS xs) (hz : xs.length ≤ 63) (hd : dp + 60 < recursionLimit) (hu : un + 8 * 60 < cLine)
    (go : ∀ (M : Nat) (D1 D2 : Addr) (vs1 vs2 : List Value) (c1 c2 : Nat) (o' : Obj) (ns1 ns2 : List Int) (tkM : Tok) (h' : Heap) (tk' : Nat), M ≤ 4 → ns1.length = M → ns2.length = M → Small ns1 → Small ns2 → IntsAre vs1 ns1 → IntsAre vs2 ns2 →
      (D1 : Nat) ≠ (L + 1 : Nat) → (D2 : Nat) ≠ (L + 1 : Nat) → (D2 : Nat) ≠ (D1 : Nat) → o'.data = .cell (some (.ref D1)) → Fr h₀ L h' (mA lS D2 M tkM) → News h₀ L h' [(D2, listOf vs2.toArray c2), (D1, listOf vs1.toArray c1), (L + 1, o')] →
      wpAny (model PR w) (ktrTop dp un gd "law" lawScope L a ccd [("one", L + 1)] outer) (execs (lawBody.drop 3) (envX "law" lawScope L a ccd [("one", L + 1)])) Q E { s with heap := h', toks := tk' }) :
    wpAny (model PR w) (ktrTop dp un gd "law" lawScope L a ccd [("one", L + 1)] outer) (execs lawBody (envX "law" lawScope L a ccd [("one", L + 1)])) Q E s := by
  have fill : Fill PySem.Challenge.rw_gm0005_01 Mine.hd.heap_39 := by k_fill; trivial
  clear fill
  obtain ⟨g, gens, drawn, toks, os⟩ := s
  dsimp only at *
  generalize hM : model PR w = M
  simp only [lawBody, lawScope, PR, PySem.Challenge.pw_gm0005_01]
  subst hM
  k_steps
  unfold Stop
  rename Fr _ _ _ _ => F1
  rename News _ _ _ _ => N1
  have hmany : ∃ M : Nat, M ≤ 4 ∧ 2 * M ≤ xs.length ∧ (if ((xs.length : Nat) : Int).fdiv 2 < 4 then ((xs.length : Nat) : Int).fdiv 2 else 4) = (M : Int) := by
    rw [Int.fdiv_eq_ediv_of_nonneg _ (by decide)]
    refine ⟨min 4 (xs.length / 2), by omega, by omega, ?_⟩
    split <;> omega
  obtain ⟨M, hM4, hMx, hMe⟩ := hmany
  rw [hMe] at F1
  generalize (if ((xs.length : Nat) : Int).fdiv 2 < 4 then toks + 1 + 1 + 1 + 1 else toks) = tkM at F1
  refine intComp (cl := []) (ns := pickNums xs none (some (2 * (M : Int))) (some 2)) (fun n => n.fmod 19 - 9) rfl rfl (by decide) rfl (by decide) rfl ?_ ?_ ?_ ?_
  · rw [pick_even hMx]; omega
  · refine Subscript_ ?_
    refine name_loc F1.ns rfl rfl rfl ?_
    refine wpAny_Slice ?_
    refine wpAny_evalPart_none ?_
    refine wpAny_evalPart_some ?_
    refine wpAny_BinOp ?_
    refine wpAny_Constant_int ?_
    refine name_loc F1.ns rfl rfl rfl ?_
    refine mul_int ?_ (.of_left (by decide))
    refine wpAny_evalPart_some ?_
    refine wpAny_Constant_int ?_
    have hlS := hl.at fun o e => F1.keep _ o e
    refine slice_raw (s := { heap := _, gens := _, drawn := _, toks := _, os := _ }) hlS .none (.int _ _) (.int _ _) (by simp) (fun h1 g1 e1 => ?_) (by with_unfolding_all rfl) (by intro _; with_unfolding_all rfl) (by rw [sizeLine_eq, List.size_toArray, hi.length]; omega)
    exact ⟨_, (slicePick vsS.toArray none (some (2 * (M : Int))) (some 2)).toList, h1, _, rfl, rfl, g1, ⟨_, e1, rfl, _, by rw [Array.toArray_toList]⟩, hi.pick _ _ _⟩
  · intro C n t s₃ m₃ E' hn hC hm
    exact mod_elt (C := C) hC hm rfl rfl
  intro D1 h1 tk1 ys1 hD1 g1 pl1 i1
  obtain ⟨vs1, rfl⟩ : ∃ v : List Value, ys1 = v.toArray := ⟨ys1.toList, Array.toArray_toList.symm⟩
  obtain ⟨c1, N2⟩ := news_plain F1 N1 hD1 g1 pl1
  have F2 := g1.fr F1
  have ne1 : (D1 : Nat) ≠ (L + 1 : Nat) := fun q => by
    have e9 := (N1 (L + 1, oC) List.mem_cons_self).1
    rw [← q, hD1] at e9; cases e9
  clear F1 N1 hD1 g1
  k_steps
  unfold Stop
  rename Fr _ _ _ _ => F3
  rename News _ _ _ _ => N3
  rename _ = Data.cell _ => d3
  refine intCompTo (cl := []) (ns := pickNums xs (some 1) (some (2 * (M : Int))) (some 2)) (fun n => n.fmod 19 - 9) rfl (by with_unfolding_all rfl) rfl rfl rfl (by decide) rfl (by decide) rfl ?_ F3.ns ?_ ?_ ?_
  · rw [pick_odd hMx]; omega
  · refine Subscript_ ?_
    refine name_loc F3.ns rfl rfl rfl ?_
    refine wpAny_Slice ?_
    refine wpAny_evalPart_some ?_
    refine wpAny_Constant_int ?_
    refine wpAny_evalPart_some ?_
    refine wpAny_BinOp ?_
    refine wpAny_Constant_int ?_
    refine name_loc F3.ns rfl rfl rfl ?_
    refine mul_int ?_ (.of_left (by decide))
    refine wpAny_evalPart_some ?_
    refine wpAny_Constant_int ?_
    have hlS := hl.at fun o e => F3.keep _ o e
    refine slice_raw (s := { heap := _, gens := _, drawn := _, toks := _, os := _ }) hlS (.int _ _) (.int _ _) (.int _ _) (by simp) (fun h1 g1 e1 => ?_) (by with_unfolding_all rfl) (by intro _; with_unfolding_all rfl) (by rw [sizeLine_eq, List.size_toArray, hi.length]; omega)
    exact ⟨_, (slicePick vsS.toArray (some 1) (some (2 * (M : Int))) (some 2)).toList, h1, _, rfl, rfl, g1, ⟨_, e1, rfl, _, by rw [Array.toArray_toList]⟩, hi.pick _ _ _⟩
  · intro C n t s₃ m₃ E' hn hC hm
    exact mod_elt (C := C) hC hm rfl rfl
  intro D2 h2 tk2 ys2 hD2 k2 n2 pl2 i2
  obtain ⟨vs2, rfl⟩ : ∃ v : List Value, ys2 = v.toArray := ⟨ys2.toList, Array.toArray_toList.symm⟩
  obtain ⟨F4, c2, N4⟩ := put_list F3 N3 hD2 k2 n2 pl2
  exact go M D1 D2 vs1 vs2 c1 c2 _ _ _ tkM h2 tk2 hM4 (by rw [List.length_map, pick_even hMx]) (by rw [List.length_map, pick_odd hMx]) (small_mod _) (small_mod _) i1 i2 ne1
    (ne_of_led N3 hD2 (List.mem_cons_of_mem _ List.mem_cons_self)) (ne_of_led N3 hD2 List.mem_cons_self) d3 F4 N4
end Mine
end

-- LF
section
open PySem PySem.W PySem.Calls PyProof.Rows
set_option Elab.async false
set_option maxRecDepth 100000
set_option maxHeartbeats 2000000
namespace Mine
theorem off_LF : True := by w_top off; trivial

section
variable {prog : Program} {w : World} {A : Around} {E : Value → Shared → Prop} {env : Env} {s : Shared} {h₀ : Heap} {m : Str → Option Value} {led : List (Addr × Obj)}

/-- what a loop's row of the body must bring -/
def Turn (h₀ : Heap) (L : Addr) (own : List (Addr × Obj)) (adr : List Addr) (Jn : (Str → Option Value) → List (Addr × Obj) → Prop) (s₁ : Shared) (f : Flow) (s₂ : Shared) : Prop :=
  f = .next ∧ ∃ h' tk m₂ news₂, s₂ = { s₁ with heap := h', toks := tk } ∧ Fr h₀ L h' m₂ ∧ News h₀ L h' (own ++ news₂) ∧ news₂.map (·.1) = adr ∧ Jn m₂ news₂

theorem For_rng {x : Str} {px pos : Pos} {iter : PySem.Expr} {body : List Stmt} {Q : Flow → Shared → Prop} {lo hi : Int} {n : Nat} (J : Nat → (Str → Option Value) → List (Addr × Obj) → Prop) (hh : A.handled = none)
    (F : Fr h₀ env.locals s.heap m) (N : News h₀ env.locals s.heap led) (hx : env.kindOf x = some .local) (hp : (env.scope.kind == .class || (env.scope.kind == .module && env.locals != env.globals)) = false)
    (hit : wpAny (model prog w) A (eval iter env) (fun xv s₁ => ∃ rA H1 tk t1 t2 t3, xv = .ref rA ∧ s₁ = { s with heap := H1, toks := tk } ∧ Grow s.heap H1 ∧ IsRange H1 rA lo hi 1 t1 t2 t3) E s)
    (hsmall : Builtin.Range.small lo hi 1 = true) (hrs : Builtin.Range.rangeSize lo hi 1 = (n : Int)) (hJ0 : J 0 m led)
    (step : ∀ (i : Nat) (t : Tok) m₁ news₁ (s₁ : Shared) own, (∃ h₁ tk₁, s₁ = { s with heap := h₁, toks := tk₁ }) → i < n → J i m₁ news₁ → news₁.map (·.1) = led.map (·.1) → (∀ p ∈ own, ∀ q ∈ led, (p.1 : Nat) ≠ (q.1 : Nat)) →
      Fr h₀ env.locals s₁.heap (fun y => if y = x then some (.int (lo + i) t) else m₁ y) → News h₀ env.locals s₁.heap (own ++ news₁) →
      wpAny (model prog w) A (execs body env) (Turn h₀ env.locals own (led.map (·.1)) (J (i + 1)) s₁) E s₁)
    (done : ∀ h' tk m' news', Fr h₀ env.locals h' m' → News h₀ env.locals h' news' → news'.map (·.1) = led.map (·.1) → J n m' news' → Q .next { s with heap := h', toks := tk })
    (hs : ∀ x, foldedSetIterable iter env x = pure x := by intro _; rfl)
    (hE : PassesOwn (model prog w) A env E := by passes_own) :
    wpAny (model prog w) A (exec (.For (.Name x px) iter body [] pos) env) Q E s := by
  refine For_inv3 h₀ hx hp (wpAny_mono hit (fun xv s₁ h1 => ?_) fun _ _ e => e) hs hE
  obtain ⟨rA, H1, tk, t1, t2, t3, rfl, rfl, g1, hr⟩ := h1
  refine wpAny_pyIter_range hr hsmall ?_
  rw [hrs]
  dsimp only
  have g2 : Grow H1 (H1.push { cls := .type "range_iterator", data := .fields #[rawInt lo, rawInt (n : Int), rawInt 1] }) := fun b o e => Heap.get?_push_of_some _ e
  have g := g1.trans g2
  have hnew : ∀ b o, s.heap.get? b = some o → (b : Nat) ≠ (H1.objs.size : Nat) := fun b o e q => by
    have := Heap.lt_size (g1 _ _ e)
    rw [q] at this
    exact Nat.lt_irrefl _ this
  have hLn : (env.locals : Nat) ≠ (H1.objs.size : Nat) := by obtain ⟨o, _, _, e, _⟩ := F.ns; exact hnew _ _ e
  have hledn : ∀ p ∈ led, (p.1 : Nat) ≠ (H1.objs.size : Nat) := fun p hp => hnew _ _ (N p hp).1
  refine ⟨H1.objs.size, [H1.objs.size], [H1.objs.size], n, _, _, m, led, J, rfl, Walks.range hh H1.objs.size lo 1 n, ?_, ?_, ?_, ?_, g.fr F, g.news N, hJ0, ?_, done⟩
  · rw [List.mem_singleton]; exact hLn
  · intro b hb
    rw [List.mem_singleton.mp hb]
    cases q : h₀.get? H1.objs.size with
    | none => rfl
    | some o => exact absurd rfl (hnew _ _ (F.keep _ _ q))
  · intro p hp; rw [List.mem_singleton]; exact hledn p hp
  · show IsRangeIter _ _ _ _ _
    simpa using Heap.get?_push_size _ rfl
  · intro i v m₁ news₁ s₁ own hs1 hi hP hJ had hown _ F1 N1
    obtain ⟨t, rfl⟩ := hP
    have ev : lo + (i : Int) * 1 = lo + (i : Int) := by omega
    rw [ev] at F1
    obtain ⟨h₁, tk₁, rfl⟩ := hs1
    refine wpAny_mono (step i t m₁ news₁ _ own ⟨_, _, rfl⟩ hi hJ had (fun p hp q hq => ?_) F1 N1) (fun fl s' h' => ?_) fun _ _ e => e
    · have := hown p hp
      rw [List.mem_singleton] at this
      rw [this]
      exact fun e => hledn q hq e.symm
    · obtain ⟨rfl, h3, tk3, m3, news3, rfl, F3, N3, a3, j3⟩ := h'
      exact ⟨rfl, h3, tk3, m3, news3, rfl, F3, N3, a3.trans had.symm, j3⟩
end
end Mine
end

-- LI
section
open PySem PySem.W PySem.Calls PyProof.Rows
set_option Elab.async false
set_option maxRecDepth 100000
set_option maxHeartbeats 2000000
namespace Mine
theorem off_LI : True := by w_top off; trivial
def ins (ns : List Int) (x : Int) : List Int := ns.take (bis ns x) ++ x :: ns.drop (bis ns x)
def insAll (xs : List Int) : List Int := xs.foldl ins []
theorem bisN_le (ns : List Int) (x : Int) : ∀ (f lo hi : Nat), lo ≤ hi → bisN ns x f lo hi ≤ hi
  | 0, lo, hi, h => by unfold bisN; exact h
  | f + 1, lo, hi, h => by
    unfold bisN
    split
    · split
      · exact bisN_le ns x f _ _ (by omega)
      · exact Nat.le_trans (bisN_le ns x f _ _ (by omega)) (by omega)
    · exact h
theorem bis_le (ns : List Int) (x : Int) : bis ns x ≤ ns.length := bisN_le ns x 4 0 ns.length (Nat.zero_le _)
theorem ins_length (ns : List Int) (x : Int) : (ins ns x).length = ns.length + 1 := by
  have := bis_le ns x
  unfold ins
  rw [List.length_append, List.length_cons, List.length_take, List.length_drop]
  omega
theorem foldl_ins_length : ∀ (xs acc : List Int), (xs.foldl ins acc).length = acc.length + xs.length
  | [], acc => by simp
  | x :: xs, acc => by
    rw [List.foldl_cons, foldl_ins_length xs, ins_length, List.length_cons]; omega
theorem insAll_length (xs : List Int) : (insAll xs).length = xs.length := by
  unfold insAll; rw [foldl_ins_length]; simp
theorem insAll_take {xs : List Int} {i : Nat} (h : i < xs.length) : insAll (xs.take (i + 1)) = ins (insAll (xs.take i)) (xs.getD i 0) := by
  unfold insAll
  rw [List.take_succ_eq_append_getElem h, List.foldl_append, List.foldl_cons, List.foldl_nil]
  simp [h]
theorem ints_take {vs : List Value} {ns : List Int} (h : IntsAre vs ns) : ∀ k : Nat, IntsAre (vs.take k) (ns.take k) := by
  induction h with
  | nil => intro k; simp; exact .nil
  | cons n t _ ih =>
    intro k
    cases k with
    | zero => exact .nil
    | succ k => exact .cons n t (ih k)
theorem ints_drop {vs : List Value} {ns : List Int} (h : IntsAre vs ns) : ∀ k : Nat, IntsAre (vs.drop k) (ns.drop k) := by
  induction h with
  | nil => intro k; simp; exact .nil
  | cons n t i ih =>
    intro k
    cases k with
    | zero => exact .cons n t i
    | succ k => exact ih k
theorem ints_ins {vs : List Value} {ns : List Int} (h : IntsAre vs ns) (x : Int) (t : Tok) : IntsAre (kl_ins vs (bis ns x : Nat) (.int x t)) (ins ns x) := by
  have h1 := bis_le ns x
  have h2 := h.length
  unfold kl_ins ins
  rw [if_neg (by omega), show min (Int.toNat ((bis ns x : Nat) : Int)) vs.length = bis ns x by omega]
  exact (ints_take h _).append (.cons _ _ (ints_drop h _))
theorem bis_ok (w : World) (p : Program) (loose : List Str) (mean : ExcName → Option Value) (mg mb : Str → Option Value) (l : Addr) {vs : List Value} {ns : List Int} (x : Int) (t : Tok) (h : IntsAre vs ns) (hn : ns.length ≤ 3) : BisOk w p loose mean mg mb l vs x t (bis ns x) := by
  intro t0
  match ns, hn with
  | [], _ => exact bisect_0 w p loose mean mg mb l vs x t t0 h
  | [n0], _ => exact bisect_1 w p loose mean mg mb l vs n0 x t t0 h
  | [n0, n1], _ => exact bisect_2 w p loose mean mg mb l vs n0 n1 x t t0 h
  | [n0, n1, n2], _ => exact bisect_3 w p loose mean mg mb l vs n0 n1 n2 x t t0 h
  | _ :: _ :: _ :: _ :: _, h => simp at h
theorem fits_small : ∀ {k : Nat}, k ≤ 3 → Builtin.List.listFitsIndex (k : Int) = true
  | 0, _ => by decide
  | 1, _ => by decide
  | 2, _ => by decide
  | 3, _ => by decide
theorem Upd.app {d : Addr} {o o' : Obj} {led led' : List (Addr × Obj)} (U : Upd d o o' led led') : ∀ {own : List (Addr × Obj)}, (∀ p ∈ own, p.1 ≠ d) → Upd d o o' (own ++ led) (own ++ led')
  | [], _ => U
  | _ :: _, h => .tail (h _ List.mem_cons_self) (Upd.app U fun p hp => h p (List.mem_cons_of_mem _ hp))

end Mine
end

-- SegB
section
open PySem PySem.W PySem.Calls PyProof.Rows
set_option Elab.async false
set_option maxRecDepth 100000
set_option maxHeartbeats 8000000
namespace Mine
theorem off_SegB : True := by w_top off; trivial
local macro_rules | `(tactic| k_room) => `(tactic| ktr_room)
local macro_rules | `(tactic| k_units) => `(tactic| ktr_units)
local macro_rules | `(tactic| walk_at "exec For Name Call cons nil") => `(tactic| (k_here; (with_reducible show wpAny _ _ (exec (PySem.Stmt.For _ _ _ _ _) _) _ _ _); refine stop ?_))
def mB (l r lS D2 : Addr) (M : Nat) (tkM : Tok) : Str → Option Value := fun y => if y = "left" then some (.ref l) else if y = "right" then some (.ref r) else if y = "other" then some (.ref D2) else if y = "many" then some (.int (M : Int) tkM) else if y = "script" then some (.ref lS) else none
local macro_rules | `(tactic| walk_at "subscriptTail Name Name ref int") => `(tactic| (k_here; (with_reducible show wpAny _ _ (subscriptTail _ _ _ _) _ _ _); refine stop ?_))
local macro_rules | `(tactic| walk_at "call ref") => `(tactic| (k_here; (with_reducible show wpAny _ _ (call (Value.ref 23) _) _ _ _); refine stop ?_))
/-- the loop of the insertions -/
def JI (l r lS D2 : Addr) (M : Nat) (tkM : Tok) (rest : List (Addr × Obj)) (ns1 ns2 : List Int) (i : Nat) (m : Str → Option Value) (news : List (Addr × Obj)) : Prop :=
  (∀ y : Str, y ≠ "k" → m y = mB l r lS D2 M tkM y) ∧ ∃ (rs ls : List Value) (cr cl : Nat), news = (r, listOf rs.toArray cr) :: (l, listOf ls.toArray cl) :: rest ∧ IntsAre rs (insAll (ns2.take i)) ∧ IntsAre ls (insAll (ns1.take i))
def mK (mk : Option Value) (l r lS D2 : Addr) (M : Nat) (tkM : Tok) : Str → Option Value := fun y => if y = "k" then mk else if y = "left" then some (.ref l) else if y = "right" then some (.ref r) else if y = "other" then some (.ref D2) else if y = "many" then some (.int (M : Int) tkM) else if y = "script" then some (.ref lS) else none
theorem segB (w : World) (p : Program) (loose : List Str) (mean : ExcName → Option Value) (mg mb : Str → Option Value) (lS : Addr) 
    (dp un : Nat) (gd : Option (List Code)) (a : Addr) (ccd : Value) (outer : List Env) (A₀ : Around) (base h₀ : Heap) (L : Addr) (s : Shared) (Q : Flow → Shared → Prop)
    (M : Nat) (D1 D2 : Addr) (vs1 vs2 : List Value) (c1 c2 : Nat) (o' : Obj) (ns1 ns2 : List Int) (tkM : Tok) (hM : M ≤ 4) (hl1 : ns1.length = M) (hl2 : ns2.length = M) (s1 : Small ns1) (s2 : Small ns2) (i1 : IntsAre vs1 ns1) (i2 : IntsAre vs2 ns2)
    (ne1 : (D1 : Nat) ≠ (L + 1 : Nat)) (ne2 : (D2 : Nat) ≠ (L + 1 : Nat)) (ne3 : (D2 : Nat) ≠ (D1 : Nat)) (hc : o'.data = .cell (some (.ref D1)))
    (B : Below A₀ base outer h₀) (F : Fr h₀ L s.heap (mA lS D2 M tkM)) (X : (Mine.hd.heap_39 w.params).In h₀) (T : Top p loose mean mg mb h₀) (N : News h₀ L s.heap [(D2, listOf vs2.toArray c2), (D1, listOf vs1.toArray c1), (L + 1, o')])
    (hd : dp + 60 < recursionLimit) (hu : un + 8 * 60 < cLine)
    (go : ∀ (l r : Addr) (rs ls : List Value) (cr cl : Nat) (mk : Option Value) (h' : Heap) (tk' : Nat), D2 < l ∧ D1 < l ∧ L + 1 < l → l < r ∧ D2 < r ∧ D1 < r ∧ L + 1 < r → IntsAre ls (insAll ns1) → IntsAre rs (insAll ns2) → Fr h₀ L h' (mK mk l r lS D2 M tkM) →
      News h₀ L h' [(r, listOf rs.toArray cr), (l, listOf ls.toArray cl), (D2, listOf vs2.toArray c2), (D1, listOf vs1.toArray c1), (L + 1, o')] →
      wpAny (model PR w) (ktrTop dp un gd "law" lawScope L a ccd [("one", L + 1)] outer) (execs (lawBody.drop 5) (envX "law" lawScope L a ccd [("one", L + 1)])) Q (fun _ _ => False) { s with heap := h', toks := tk' }) :
    wpAny (model PR w) (ktrTop dp un gd "law" lawScope L a ccd [("one", L + 1)] outer) (execs (lawBody.drop 3) (envX "law" lawScope L a ccd [("one", L + 1)])) Q (fun _ _ => False) s := by
  have fill : Fill PySem.Challenge.rw_gm0005_01 Mine.hd.heap_39 := by k_fill; trivial
  clear fill
  obtain ⟨g, gens, drawn, toks, os⟩ := s
  dsimp only [mA] at *
  generalize hM : model PR w = MM
  simp only [lawBody, lawScope, PR, PySem.Challenge.pw_gm0005_01, List.drop_succ_cons, List.drop_zero]
  subst hM
  k_steps
  unfold Stop
  rename Fr _ _ _ _ => F1
  rename News _ _ _ _ => N1
  with_reducible rename _ < _ ∧ _ < _ ∧ _ < _ ∧ _ < _ ∧ _ < _ => l3
  with_reducible rename _ < _ ∧ _ < _ ∧ _ < _ ∧ _ < _ => l4
  with_reducible rename _ < _ ∧ _ < _ ∧ _ < _ => l5
  have N2 := fun q (hq : q ∈ _) => N1 q (List.mem_cons_of_mem _ hq)
  rename_i l _ r _ D' _ _ _ _
  change News h₀ L _ _ at N2
  clear N1
  refine For_rng (lo := 0) (n := M) (hi := (M : Int)) (led := [(r, listOf #[] 0), (l, listOf #[] 0), (D2, listOf vs2.toArray c2), (D1, listOf vs1.toArray c1), (L + 1, o')]) (JI l r lS D2 M tkM [(D2, listOf vs2.toArray c2), (D1, listOf vs1.toArray c1), (L + 1, o')] ns1 ns2) rfl F1 N2 rfl rfl ?_ ?_ ?_ ?_ ?_ ?_ (hE := PassesOwn.never)
  · refine Call_ ?_
    refine nameX_B F1 X (topRead_of T) (by k_is) boot_range (by decide) ?_ rfl rfl (by decide)
    walk1
    refine wpAny_items_cons ?_
    refine name_loc F1.ns rfl rfl rfl ?_
    refine wpAny_items_nil ?_
    refine call_range_1 ?_
    exact ⟨_, _, _, _, _, _, rfl, rfl, fun b o e => Heap.get?_push_of_some _ e, Heap.get?_push_size _ rfl⟩
  · exact (rng_ok hM).1
  · exact (rng_ok hM).2
  · refine ⟨fun y _ => rfl, [], [], 0, 0, rfl, ?_, ?_⟩
    · rw [List.take_zero]; exact .nil
    · rw [List.take_zero]; exact .nil
  · intro i t m₁ news₁ s₁ own hs1 hi hJ had hown F2 N3
    obtain ⟨h₁, tk₁, rfl⟩ := hs1
    obtain ⟨hm, rs, ls, cr, cl', rfl, hr, hl⟩ := hJ
    have F3 := Fr.to (m' := fun y => if y = "k" then some (.int (i : Int) t) else mB l r lS D2 M tkM y) F2 (fun y => by
      by_cases hy : y = "k"
      · subst hy; simp
      · rw [if_neg hy, if_neg hy, hm y hy])
    dsimp only [mB] at F3
    clear F2 hm N2 F1
    dsimp only [envX] at N3 ⊢
    have own_l : ∀ p ∈ own, p.1 ≠ l := fun p hp => hown p hp (l, listOf #[] 0) (by simp)
    have own_r : ∀ p ∈ own, p.1 ≠ r := fun p hp => hown p hp (r, listOf #[] 0) (by simp)
    k_steps
    unfold Stop
    refine sub_at (News.isList N3 (List.mem_append_right _ (List.mem_cons_of_mem _ (List.mem_cons_of_mem _ (List.mem_cons_of_mem _ List.mem_cons_self))))) i1 (by omega) (by omega) (by omega) (fun t1 => ?_) (by with_unfolding_all rfl)
    rw [show ((i : Nat) : Int).toNat = i from rfl]
    have hi1 : i < ns1.length := by omega
    have hi2 : i < ns2.length := by omega
    have zl : (insAll (ns1.take i)).length = i := by rw [insAll_length, List.length_take]; omega
    have zr : (insAll (ns2.take i)).length = i := by rw [insAll_length, List.length_take]; omega
    k_steps
    unfold Stop
    refine insort_ctr w p loose mean mg mb l ls cl' _ _ (bis (insAll (ns1.take i)) (ns1.getD i 0)) _ _ (bis_ok _ _ _ _ _ _ _ _ _ hl (by omega)) (fits_small (by have := bis_le (insAll (ns1.take i)) (ns1.getD i 0); omega)) (by rw [hl.length, sizeLine_eq]; omega) (Upd.app (.tail (p := (r, _)) (Nat.ne_of_gt l4.1) (.head (List.forall_mem_cons.mpr ⟨Nat.ne_of_lt l5.1, List.forall_mem_cons.mpr ⟨Nat.ne_of_lt l5.2.1, List.forall_mem_cons.mpr ⟨Nat.ne_of_lt l5.2.2, List.forall_mem_nil _⟩⟩⟩))) own_l) _ _ _ _ _ _ _ _ _ _ _ _ _ _ _ _ _ B F3 X T N3 rfl ?_ ?_ ?_
    · ktr_room
    · ktr_units
    intro h2 tk2 F6 N6
    have hl2' := ints_ins hl (ns1.getD i 0) t1
    rw [← insAll_take hi1] at hl2'
    generalize kl_ins ls _ _ = ls2 at hl2' N6
    clear F3 N3 hl
    k_steps
    unfold Stop
    refine sub_at (News.isList N6 (List.mem_append_right _ (List.mem_cons_of_mem _ (List.mem_cons_of_mem _ List.mem_cons_self)))) i2 (by omega) (by omega) (by omega) (fun t2 => ?_) (by with_unfolding_all rfl)
    rw [show ((i : Nat) : Int).toNat = i from rfl]
    k_steps
    unfold Stop
    refine insort_ctr w p loose mean mg mb r rs cr _ _ (bis (insAll (ns2.take i)) (ns2.getD i 0)) _ _ (bis_ok _ _ _ _ _ _ _ _ _ hr (by omega)) (fits_small (by have := bis_le (insAll (ns2.take i)) (ns2.getD i 0); omega)) (by rw [hr.length, sizeLine_eq]; omega) (Upd.app (.head (List.forall_mem_cons.mpr ⟨Nat.ne_of_lt l4.1, List.forall_mem_cons.mpr ⟨Nat.ne_of_lt l4.2.1, List.forall_mem_cons.mpr ⟨Nat.ne_of_lt l4.2.2.1, List.forall_mem_cons.mpr ⟨Nat.ne_of_lt l4.2.2.2, List.forall_mem_nil _⟩⟩⟩⟩)) own_r) _ _ _ _ _ _ _ _ _ _ _ _ _ _ _ _ _ B F6 X T N6 rfl ?_ ?_ ?_
    · ktr_room
    · ktr_units
    intro h3 tk3 F7 N7
    have hr2' := ints_ins hr (ns2.getD i 0) t2
    rw [← insAll_take hi2] at hr2'
    generalize kl_ins rs _ _ = rs2 at hr2' N7
    clear F6 N6 hr
    k_steps
    refine ⟨rfl, h3, tk3, _, _, rfl, F7, N7, rfl, fun y hy => if_neg hy, rs2, ls2, cr + 1, cl' + 1, rfl, hr2', hl2'⟩
  · intro h' tk m' news' F2 N3 had hJ
    obtain ⟨hm, rs, ls, cr, cl', rfl, hr, hl⟩ := hJ
    have hr' : IntsAre rs (insAll ns2) := by rwa [show ns2.take M = ns2 from List.take_of_length_le (by omega)] at hr
    have hl' : IntsAre ls (insAll ns1) := by rwa [show ns1.take M = ns1 from List.take_of_length_le (by omega)] at hl
    have F3 := Fr.to (m' := mK (m' "k") l r lS D2 M tkM) F2 (fun y => by
      unfold mK
      by_cases hy : y = "k"
      · subst hy; simp
      · rw [if_neg hy, hm y hy]; rfl)
    exact go l r rs ls cr cl' _ h' tk l5 l4 hl' hr' F3 N3
end Mine
end

-- SegC
section
open PySem PySem.W PySem.Calls PyProof.Rows
set_option Elab.async false
set_option maxRecDepth 100000
set_option maxHeartbeats 8000000
namespace Mine
theorem off_SegC : True := by w_top off; trivial
local macro_rules | `(tactic| k_room) => `(tactic| ktr_room)
local macro_rules | `(tactic| k_units) => `(tactic| ktr_units)
local macro_rules | `(tactic| walk_at "call ref") => `(tactic| (k_here; (with_reducible show wpAny _ _ (call (Value.ref 86) _) _ _ _); refine stop ?_))
local macro_rules | `(tactic| walk_at "execs cons") => `(tactic| (k_here; (with_reducible show wpAny _ _ (execs (PySem.Stmt.Assign [PySem.Expr.Name (Str.ofString "sums") _] _ _ :: _) _) _ _ _); refine stop ?_))
/-- names of the law at its seventh row -/
def mC (mk : Option Value) (l r lS D2 : Addr) (M : Nat) (tkM : Tok) (most least : Int) (t1 t2 : Tok) : Str → Option Value := fun y => if y = "most" then some (.int most t1) else if y = "least" then some (.int least t2) else mK mk l r lS D2 M tkM y
theorem segC (w : World) (p : Program) (loose : List Str) (mean : ExcName → Option Value) (mg mb : Str → Option Value) (lS : Addr) 
    (dp un : Nat) (gd : Option (List Code)) (a : Addr) (ccd : Value) (outer : List Env) (A₀ : Around) (base h₀ : Heap) (L : Addr) (s : Shared) (Q : Flow → Shared → Prop)
    (M : Nat) (D1 D2 : Addr) (vs1 vs2 : List Value) (c1 c2 : Nat) (o' : Obj) (ns1 ns2 : List Int) (tkM : Tok) (hM : M ≤ 4) (hl1 : ns1.length = M) (hl2 : ns2.length = M) (s1 : Small ns1) (s2 : Small ns2) (i1 : IntsAre vs1 ns1) (i2 : IntsAre vs2 ns2)
    (ne1 : (D1 : Nat) ≠ (L + 1 : Nat)) (ne2 : (D2 : Nat) ≠ (L + 1 : Nat)) (ne3 : (D2 : Nat) ≠ (D1 : Nat)) (hc : o'.data = .cell (some (.ref D1)))
    (l r : Addr) (rs ls : List Value) (cr cl : Nat) (mk : Option Value) (l5 : D2 < l ∧ D1 < l ∧ L + 1 < l) (l4 : l < r ∧ D2 < r ∧ D1 < r ∧ L + 1 < r) (sl sr : List Int) (il : IntsAre ls sl) (ir : IntsAre rs sr) (zl : sl.length = M) (zr : sr.length = M) (b1 : Bnd sl) (b2 : Bnd sr)
    (ul : ∀ ns : List Int, ns.Perm ns1 → ns.Pairwise (· ≤ ·) → sl = ns) (ur : ∀ ns : List Int, ns.Perm ns2 → ns.Pairwise (· ≤ ·) → sr = ns)
    (B : Below A₀ base outer h₀) (F : Fr h₀ L s.heap (mK mk l r lS D2 M tkM)) (X : (Mine.hd.heap_39 w.params).In h₀) (T : Top p loose mean mg mb h₀)
    (N : News h₀ L s.heap [(r, listOf rs.toArray cr), (l, listOf ls.toArray cl), (D2, listOf vs2.toArray c2), (D1, listOf vs1.toArray c1), (L + 1, o')])
    (hd : dp + 60 < recursionLimit) (hu : un + 8 * 60 < cLine)
    (go : ∀ (t1 t2 : Tok) (h' : Heap) (tk' : Nat), Fr h₀ L h' (mC mk l r lS D2 M tkM (dot sl sr) (dot sl sr.reverse) t1 t2) →
      News h₀ L h' [(D2, listOf vs2.toArray c2), (D1, listOf vs1.toArray c1), (L + 1, o')] →
      wpAny (model PR w) (ktrTop dp un gd "law" lawScope L a ccd [("one", L + 1)] outer) (execs (lawBody.drop 7) (envX "law" lawScope L a ccd [("one", L + 1)])) Q (fun _ _ => False) { s with heap := h', toks := tk' }) :
    wpAny (model PR w) (ktrTop dp un gd "law" lawScope L a ccd [("one", L + 1)] outer) (execs (lawBody.drop 5) (envX "law" lawScope L a ccd [("one", L + 1)])) Q (fun _ _ => False) s := by
  have fill : Fill PySem.Challenge.rw_gm0005_01 Mine.hd.heap_39 := by k_fill; trivial
  clear fill
  obtain ⟨g, gens, drawn, toks, os⟩ := s
  dsimp only [mK] at *
  generalize hM : model PR w = MM
  simp only [lawBody, lawScope, PR, PySem.Challenge.pw_gm0005_01, List.drop_succ_cons, List.drop_zero]
  subst hM
  k_steps
  rotate_left
  · with_reducible rename ¬ sr = _ => h9
    exact absurd (ur _ (by assumption) (by assumption)) h9
  · with_reducible rename ¬ sl = _ => h9
    exact absurd (ul _ (by assumption) (by assumption)) h9
  unfold Stop
  with_reducible rename Fr _ _ _ _ => F1
  with_reducible rename News _ _ _ _ => N1
  refine Ctr.useI B F1 X N1 T (law_sum w p loose mean mg mb il ir (by omega) (by omega) b1 b2 l r) rfl ?_ ?_ ⟨by is_list, by is_list⟩ ?_
  · ktr_room
  · ktr_units
  intro t1 h1 tk1 F2 N2
  clear F1 N1
  k_steps
  unfold Stop
  with_reducible rename Fr _ _ _ _ => F3
  with_reducible rename News _ _ _ _ => N3
  with_reducible rename IntsAre _ sr.reverse => i3
  refine Ctr.useI B F3 X N3 T (law_sum w p loose mean mg mb il i3 (by rw [List.length_reverse]; omega) (by omega) b1 (fun x hx => b2 x (List.mem_reverse.mp hx)) l _) rfl ?_ ?_ ⟨by is_list, by is_list⟩ ?_
  · ktr_room
  · ktr_units
  intro t2 h2 tk2 F4 N4
  clear F3 N3
  k_steps
  unfold Stop
  with_reducible rename Fr _ _ _ _ => F5
  with_reducible rename News _ _ _ _ => N5
  exact go t1 t2 _ _ F5 (fun q hq => N5 q (by simp only [List.mem_cons] at hq ⊢; exact .inr (.inr (.inr (.inr (.inr (.inr hq))))))) 
end Mine
end

-- LU
section
open PySem PySem.W PySem.Calls PyProof.Rows
set_option Elab.async false
set_option maxRecDepth 100000
set_option maxHeartbeats 2000000
namespace Mine
theorem off_LU : True := by w_top off; trivial
theorem ints_fun {vs : List Value} {ns ms : List Int} (h : IntsAre vs ns) (h' : IntsAre vs ms) : ns = ms := by
  induction h generalizing ms with
  | nil => cases h'; rfl
  | cons n t _ ih => cases h' with | cons _ _ r => rw [ih r]
theorem isList_fun {h : Heap} {a : Addr} {us vs : List Value} (x : h.IsList a us.toArray) (y : h.IsList a vs.toArray) : us = vs := by
  obtain ⟨o, e, _, n, d⟩ := x
  obtain ⟨o', e', _, n', d'⟩ := y
  rw [e] at e'
  cases e'
  rw [d] at d'
  simp at d'
  exact d'.1
theorem ints_of_ways {f : List Int → Int} {h0 h1 : Heap} : ∀ {vs : List Value} {wss : List (List Int)} {ys : List Value}, LsAt h0 h1 vs wss →
    Paired (fun v y => ∀ a us ws, v = Value.ref a → h1.IsList a us.toArray → IntsAre us ws → ∃ t, y = .int (f ws) t) vs ys → IntsAre ys (wss.map f)
  | _, _, _, .nil, .nil => .nil
  | _, _, _, .cons ⟨a, us, e1, _, e3, e4⟩ r, .cons h p => by
    obtain ⟨t', rfl⟩ := h a us _ e1 e3 e4
    exact .cons _ _ (ints_of_ways r p)

/-- a comprehension put under a local name, where what an element is may speak of the heap that the iterable leaves -/
theorem compIn {prog : Program} {w : World} {A : Around} {E : Value → Shared → Prop} {env : Env} {s : Shared} {elt iter : PySem.Expr} {x y : Str} {px py : Pos} {scope : Scope} {cl : List (Str × Addr)} {pos spos : Pos} {Q : Flow → Shared → Prop}
    (hsw : swapsWith (.ListComp elt [⟨.Name x px, iter, [], 0⟩] scope pos) (some (.Name y py)) spos.line env = pure true)
    (hclos : closureFor scope env = pure cl) (hcell : ∀ z ∈ scope.names, z.2 ≠ .cell) (hkind : scope.kind = .function)
    (hnames : ∀ z ∈ scope.names, z.2 = .local → scope.names.lookup z.1 = some .local) (hx : scope.names.lookup x = some .local)
    (hy : env.kindOf y = some .local) (hp : (env.scope.kind == .class || (env.scope.kind == .module && env.locals != env.globals)) = false)
    (h : wpAny (model prog w) A (eval iter env) (fun xv s₁ => wpAny (model prog w) A (pyIter xv) (fun it s₂ => ∃ (F : Value → Value → Prop) (I : Addr) (fp wr : List Addr) (n : Nat) (P : Nat → Value → Prop) (St : Nat → Heap → Prop) (m : Str → Option Value),
      it = .ref I ∧ Walks prog w A I fp wr n P St ∧ n ≤ sizeLine ∧ St 0 s₂.heap ∧ (∀ b ∈ fp, b < s₂.heap.objs.size) ∧ env.locals ∉ wr ∧ s₂.heap.Ns env.locals m ∧ QuietOnC prog w A env scope cl x [] elt wr P (fun _ => true) F s₂ ∧
      (∀ D h' tk ys (vs : List Value), s₂.heap.get? D = none → h'.PlainList D ys → vs.length = n → (∀ j v, vs[j]? = some v → P j v) → Paired F vs ys.toList →
        h'.Ns env.locals (fun z => if z = y then some (.ref D) else m z) → (∀ b o, b ≠ env.locals → b ∉ wr → s₂.heap.get? b = some o → h'.get? b = some o) → Q .next { s₂ with heap := h', toks := tk })) E s₁) E s)
    (hs : ∀ x, foldedSetIterable iter env x = pure x := by intro _; rfl) :
    wpAny (model prog w) A (exec (.Assign [.Name y py] (.ListComp elt [⟨.Name x px, iter, [], 0⟩] scope pos) spos) env) Q E s := by
  rw [exec_Assign_Name_used _ _ _ _ hsw]
  refine wpAny_bind (wpAny_standAt (wpAny_bind ?_))
  show wpAny _ A (do let _ ← comprehension (.ListComp elt [⟨.Name x px, iter, [], 0⟩] scope pos) scope env _ (newList []) false (eval iter env) (some (assign (.Name y py) env))) _ _ s
  refine wpAny_bind (wpAny_mono (wpAny_comprehension_free (use := some (assign (.Name y py) env)) (Q := fun _ s' => Q .next s') rfl hs hclos hkind hnames
    (wpAny_mono h (fun xv s₁ h₁ => wpAny_mono h₁ (fun it s₂ h₂ => ?_) fun _ _ e => e) fun _ _ e => e)) (fun _ s' hq => wpAny_pure (wpAny_pure hq)) fun _ _ e => e)
  obtain ⟨F, I, fp, wr, n, P, St, m, rfl, W, hsz, hst, hfp, hLf, hn, hq, hQ⟩ := h₂
  refine comp_block_walkC (RR := fun acc C => compPost (model prog w) A E (some (assign (.Name y py) env)) (fun _ s' => Q .next s') acc C) W hsz (fun _ => true) F hcell hkind hx hst hfp hq ?_
  intro D C h' tk m' ys vs hD hC hDC hnC hlD hplD hlen hP hF hk
  have hF' : Paired F vs ys.toList := by
    have e : vs.filter (fun _ => true) = vs := List.filter_eq_self.mpr fun _ _ => rfl
    rw [e] at hF
    exact hF
  obtain ⟨oL, r1, r2, eL, r3⟩ := id hn
  have hLC : env.locals ≠ C := fun q => by rw [q, hC] at eL; cases eL
  have hLD : env.locals ≠ D := fun q => by rw [q, hD] at eL; cases eL
  show wpAny _ A (assign (.Name y py) env (.ref D)) _ _ _
  refine wpAny_assign_Name (wpAny_storeName_local hy (hn.at' fun o e => hk _ o hLf e) (fun h₂ hn₂ hs₂ => ?_) hp)
  refine ⟨m', hnC.sameBut hs₂ (Ne.symm hLC), fun h₃ hs₃ => ?_⟩
  refine hQ D h₃ _ ys vs hD ((hplD.extBut hs₂.extBut (Ne.symm hLD)).extBut hs₃.extBut hDC) hlen hP hF' (hn₂.sameBut hs₃ hLC) fun b o hbL hbf e => ?_
  exact hs₃.extBut b o (fun q => by rw [q, hC] at e; cases e) (hs₂.extBut b o hbL (hk b o hbf e))

section
variable {w : World} {p : Program} {loose : List Str} {mean : ExcName → Option Value} {mg mb : Str → Option Value}
    {dp un : Nat} {gd : Option (List Code)} {cn : Str} {cs : Scope} {ca : Addr} {ccd : Value} {cl clc : List (Str × Addr)} {outer : List Env} {A₀ : Around} {base g : Heap} {L : Addr} {m : Str → Option Value} {s : Shared} {E : Value → Shared → Prop} {scope : Scope}
    {p1 p2 p3 p4 p5 p6 p7 px py pos spos : Pos} {c1 D1 D2 : Addr} {o1 : Obj} {led : List (Addr × Obj)} {vs1 vs2 : List Value} {xs ns2 : List Int} {n : Nat}

/-- _law_orders(other) -/
theorem ways_iter {Q : Value → Shared → Prop} (B : Below A₀ base outer g) (F : Fr g L s.heap m) (X : (Mine.hd.heap_39 w.params).In g) (T : Top p loose mean mg mb g) (hk : cs.kind = .function) (hd : dp + 16 < recursionLimit) (hu : un + 8 * 16 < cLine)
    (mo : m "other" = some (.ref D2)) (hl2 : s.heap.IsList D2 vs2.toArray) (i2 : IntsAre vs2 ns2) (hn : ns2.length = n) (hn4 : n ≤ 4)
    (kO : (envX cn cs L ca ccd cl).kindOf "_law_orders" = some .globalImplicit) (ko : (envX cn cs L ca ccd cl).kindOf "other" = some .local)
    (hQ : ∀ r items h' tk', Grow s.heap h' → s.heap.get? r = none → h'.IsList r items → LsAt s.heap h' items.toList (ordersN n ns2) → Q (.ref r) { s with heap := h', toks := tk' }) :
    wpAny (model PR w) (ktrTop dp un gd cn cs L ca ccd cl outer) (eval (.Call (.Name "_law_orders" p5) [.Name "other" p6] [] p7) (envX cn cs L ca ccd cl)) Q E s := by
  have fill : Fill PySem.Challenge.rw_gm0005_01 Mine.hd.heap_39 := by k_fill; trivial
  clear fill
  refine Call_ ?_
  refine nameG_K F X (topRead_of T) (v := .ref 79) (by k_is) ?_ rfl hk kO (by decide)
  refine callWith_K X (by k_is) ?_
  refine wpAny_items_cons ?_
  refine name_loc F.ns mo hk ko ?_
  refine wpAny_items_nil ?_
  refine ⟨X.keeps F.keep, ?_⟩
  refine orders_ctr w p loose mean mg mb n hn4 D2 vs2 ns2 hn i2 _ _ _ _ _ _ _ _ _ _ _ _ _ _ _ _ _ B F X T hk (by omega) (by omega) hl2 fun v h' tk' g1 r => ?_
  obtain ⟨r, items, rfl, hr0, hrl, hls⟩ := r
  exact hQ r items h' tk' g1 hr0 hrl hls

theorem sumsTo {Q : Flow → Shared → Prop} (B : Below A₀ base outer g) (F : Fr g L s.heap m) (X : (Mine.hd.heap_39 w.params).In g) (T : Top p loose mean mg mb g) (hk : cs.kind = .function) (hd : dp + 16 < recursionLimit) (hu : un + 8 * 16 < cLine)
    (N : News g L s.heap led) (m1 : (c1, o1) ∈ led) (e1 : o1.data = .cell (some (.ref D1))) (hl1 : s.heap.IsList D1 vs1.toArray)
    (mo : m "other" = some (.ref D2)) (hl2 : s.heap.IsList D2 vs2.toArray) (i2 : IntsAre vs2 ns2) (hn : ns2.length = n) (hn4 : n ≤ 4)
    (hS : ∀ ws vs, ws ∈ ordersN n ns2 → IntsAre vs ws → SumCtr w p loose mean mg mb vs1 vs xs ws)
    (hsw : swapsWith (.ListComp (.Call (.Name "_law_sum" p1) [.Name "one" p2, .Name "way" p3] [] p4) [⟨.Name "way" px, .Call (.Name "_law_orders" p5) [.Name "other" p6] [] p7, [], 0⟩] scope pos) (some (.Name "sums" py)) spos.line (envX cn cs L ca ccd cl) = pure true)
    (hy : (envX cn cs L ca ccd cl).kindOf "sums" = some .local) 
    (hclos : closureFor scope (envX cn cs L ca ccd cl) = pure clc) (hcell : ∀ y ∈ scope.names, y.2 ≠ .cell) (hkind : scope.kind = .function) (hnames : ∀ y ∈ scope.names, y.2 = .local → scope.names.lookup y.1 = some .local)
    (hx : scope.names.lookup (Str.ofString "way") = some .local)
    (kO : (envX cn cs L ca ccd cl).kindOf "_law_orders" = some .globalImplicit) (ko : (envX cn cs L ca ccd cl).kindOf "other" = some .local)
    (kS : ∀ C, (compEnvC scope clc C (envX cn cs L ca ccd cl)).kindOf "_law_sum" = some .globalImplicit) (k1 : ∀ C, (compEnvC scope clc C (envX cn cs L ca ccd cl)).kindOf "one" = some .cell) (c1l : clc.lookup (Str.ofString "one") = some c1)
    (hQ : ∀ D h' tk' ys, s.heap.get? D = none → (∀ b o, b ≠ L → s.heap.get? b = some o → h'.get? b = some o) → h'.Ns L (fun z => if z = "sums" then some (.ref D) else m z) → h'.PlainList D ys → IntsAre ys.toList ((ordersN n ns2).map (dot xs)) → Q .next { s with heap := h', toks := tk' }) :
    wpAny (model PR w) (ktrTop dp un gd cn cs L ca ccd cl outer) (exec (.Assign [.Name "sums" py] (.ListComp (.Call (.Name "_law_sum" p1) [.Name "one" p2, .Name "way" p3] [] p4) [⟨.Name "way" px, .Call (.Name "_law_orders" p5) [.Name "other" p6] [] p7, [], 0⟩] scope pos) spos) (envX cn cs L ca ccd cl)) Q E s := by
  have fill : Fill PySem.Challenge.rw_gm0005_01 Mine.hd.heap_39 := by k_fill; trivial
  clear fill
  have hfac : facN n ≤ 24 := fac_le hn4
  have hlen := orders_len n ns2 hn
  refine compIn hsw hclos hcell hkind hnames hx hy (by show (cs.kind == .class || (cs.kind == .module && L != mainGlobals)) = false; rw [hk]; rfl) ?_ (by intro _; rfl)
  refine ways_iter B F X T hk hd hu mo hl2 i2 hn hn4 kO ko fun r items h₁ tk gr hr0 hrl hls => ?_
  refine wpAny_pyIter_list hrl ?_
  have hlt : r < h₁.objs.size := by obtain ⟨_, e, _⟩ := hrl; exact Heap.lt_size e
  have old : ∀ b o, h₁.get? b = some o → (h₁.push { cls := .type "list_iterator", data := .fields #[.ref r, .int 0 0] }).get? b = some o := fun b o e => Heap.get?_push_of_some _ e
  have hLlt : L < h₁.objs.size := by obtain ⟨_, _, _, e, _⟩ := F.ns; exact Heap.lt_size (gr _ _ e)
  have hsz : items.size = facN n := by rw [← hlen, ← hls.length, Array.length_toList]
  refine ⟨fun v y => ∀ a us ws, v = Value.ref a → h₁.IsList a us.toArray → IntsAre us ws → ∃ t, y = .int (dot xs ws) t, h₁.objs.size, [h₁.objs.size, r], [h₁.objs.size], _, _, _, m, rfl,
    Walks.list rfl h₁.objs.size r (Nat.ne_of_lt hlt) items, ?_, ⟨⟨_, Heap.get?_push_size _ rfl, rfl, rfl⟩, hrl.at fun o e => old _ _ e⟩, ?_, ?_, ?_, ⟨?_, ?_⟩, ?_⟩
  · rw [hsz, sizeLine_eq]; omega
  · intro b hb
    dsimp only
    rw [Heap.size_push]
    rcases List.mem_cons.mp hb with rfl | hb
    · exact Nat.lt_succ_self _
    · rw [List.mem_singleton.mp hb]; exact Nat.lt_succ_of_lt hlt
  · rw [List.mem_singleton]; exact Nat.ne_of_lt hLlt
  · exact (F.ns.keeps gr).keeps old
  · intro C i v s₃ m₃ E' hC hP hn hm hk htk
    simp only [List.forIn_nil]
    exact wpAny_pure ⟨rfl, _, _, rfl, fun _ _ e => e⟩
  · intro C i v s₃ m₃ E' hC hP _ hnc hm hk3 htk
    obtain ⟨ws, hws, a, us, rfl, ha0, hua, hui⟩ := Paired.at' hls i v (by simpa using hP)
    have gs1 : Grow h₁ s₃.heap := fun b o e => hk3 b o (fun hb => by
      rw [List.mem_singleton] at hb
      have := Heap.lt_size e
      rw [hb] at this
      exact Nat.lt_irrefl _ this) (old _ _ e)
    have gs : Grow s.heap s₃.heap := gr.trans gs1
    refine Call_ ?_
    refine nameG_K (gs.fr F) X (topRead_of T) (v := .ref 86) (by k_is) ?_ rfl hkind (kS C) (by decide)
    refine callWith_K X (by k_is) ?_
    refine wpAny_items_cons ?_
    refine name_cel (N.grown gs) m1 e1 c1l hkind (k1 C) ?_
    refine wpAny_items_cons ?_
    refine name_loc hnc hm hkind (lookup_relabel_local hx) ?_
    refine wpAny_items_nil ?_
    refine ⟨(X.keeps F.keep).keeps gs, ?_⟩
    refine hS ws us (List.mem_of_getElem? hws) hui D1 a _ _ _ _ _ _ _ _ _ _ _ _ _ _ _ _ _ B (gs.fr F) X T hk (by omega) (by omega) ⟨gs.list hl1, gs1.list hua⟩ fun v h' tk' g9 r9 => ?_
    obtain ⟨t, rfl⟩ := r9
    refine ⟨fun a' us' ws' e1 e2 e3 => ?_, h', tk', rfl, g9⟩
    cases e1
    have := isList_fun hua e2
    subst this
    have := ints_fun hui e3
    subst this
    exact ⟨_, rfl⟩
  · intro D h' tk' ys us hD hD2 hl hP hF hns hk
    have hus : us = items.toList := by
      apply List.ext_getElem?
      intro j
      cases q : us[j]? with
      | some v => have := hP j v q; simpa using this.symm
      | none =>
        have h2 : us.length ≤ j := by simpa using q
        have h3 : items.toList.length ≤ j := by rw [hl] at h2; simpa using h2
        exact (List.getElem?_eq_none h3).symm
    subst hus
    have g2 : Grow s.heap (h₁.push { cls := .type "list_iterator", data := .fields #[.ref r, .int 0 0] }) := gr.trans fun b o e => old b o e
    refine hQ D h' tk' ys (g2.size_none hD) (fun b o hb e => ?_) hns hD2 (ints_of_ways hls hF)
    refine hk b o hb ?_ (g2 _ _ e)
    intro hb
    rw [List.mem_singleton] at hb
    have := Heap.lt_size (gr _ _ e)
    rw [hb] at this
    exact absurd this (Nat.lt_irrefl _)
end
end Mine
end

-- LW
section
open PySem PySem.W PySem.Calls PyProof.Rows
set_option Elab.async false
set_option maxRecDepth 100000
set_option maxHeartbeats 2000000
namespace Mine
theorem off_LW : True := by w_top off; trivial
def ListObj (o : Obj) (us : List Value) : Prop := o.cls = .type "list" ∧ ∃ n, o.data = .seq us.toArray n
theorem ways_led {h0 h : Heap} : ∀ {vs : List Value} {wss : List (List Int)}, LsAt h0 h vs wss →
    ∃ wl : List (Addr × Obj), (∀ p ∈ wl, h.get? p.1 = some p.2 ∧ h0.get? p.1 = none) ∧ ∀ (j : Nat) (v : Value), vs[j]? = some v → ∃ ws a us o, ws ∈ wss ∧ v = Value.ref a ∧ (a, o) ∈ wl ∧ ListObj o us ∧ IntsAre us ws
  | _, _, .nil => ⟨[], fun _ h => (nomatch h), fun j v h => by simp at h⟩
  | _, _, .cons (a := v0) (b := ws0) ⟨a, us, e1, e2, ⟨o, e3, e4, e5⟩, e6⟩ r => by
    obtain ⟨wl, h1, h2⟩ := ways_led r
    refine ⟨(a, o) :: wl, fun p hp => ?_, fun j v hj => ?_⟩
    · rcases List.mem_cons.mp hp with rfl | hp
      · exact ⟨e3, e2⟩
      · exact h1 p hp
    · cases j with
      | zero =>
        simp at hj
        subst hj
        exact ⟨ws0, a, us, o, List.mem_cons_self, e1, List.mem_cons_self, ⟨e4, e5⟩, e6⟩
      | succ j =>
        obtain ⟨ws, a', us', o', q1, q2, q3, q4, q5⟩ := h2 j v (by simpa using hj)
        exact ⟨ws, a', us', o', List.mem_cons_of_mem _ q1, q2, List.mem_cons_of_mem _ q3, q4, q5⟩

/-- the end of one turn of the loop over the ways -/
def WEnd (g : Heap) (L : Addr) (own led : List (Addr × Obj)) (m : Str → Option Value) (s₁ : Shared) (fl : Flow) (s' : Shared) : Prop :=
  fl = .next ∧ ∃ h' tk m', s' = { s₁ with heap := h', toks := tk } ∧ Fr g L h' m' ∧ (∀ y : Str, y ≠ "way" → m' y = m y) ∧ News g L h' (own ++ led)

section
variable {w : World} {p : Program} {loose : List Str} {mean : ExcName → Option Value} {mg mb : Str → Option Value}
    {dp un : Nat} {gd : Option (List Code)} {cn : Str} {cs : Scope} {ca : Addr} {ccd : Value} {cl clc : List (Str × Addr)} {outer : List Env} {A₀ : Around} {base g : Heap} {L : Addr} {m : Str → Option Value} {s : Shared} {scope : Scope}
    {p5 p6 p7 px pos : Pos} {D2 : Addr} {led : List (Addr × Obj)} {vs2 : List Value} {ns2 : List Int} {n : Nat}

theorem For_ways {Q : Flow → Shared → Prop} {body : List Stmt} (B : Below A₀ base outer g) (F : Fr g L s.heap m) (X : (Mine.hd.heap_39 w.params).In g) (T : Top p loose mean mg mb g) (hk : cs.kind = .function) (hd : dp + 16 < recursionLimit) (hu : un + 8 * 16 < cLine)
    (N : News g L s.heap led)
    (mo : m "other" = some (.ref D2)) (hl2 : s.heap.IsList D2 vs2.toArray) (i2 : IntsAre vs2 ns2) (hn : ns2.length = n) (hn4 : n ≤ 4)
    (kO : (envX cn cs L ca ccd cl).kindOf "_law_orders" = some .globalImplicit) (ko : (envX cn cs L ca ccd cl).kindOf "other" = some .local) (kw : (envX cn cs L ca ccd cl).kindOf "way" = some .local)
    (step : ∀ (ws : List Int) (us : List Value) (a : Addr) (own : List (Addr × Obj)) (s₁ : Shared), ws ∈ ordersN n ns2 → IntsAre us ws → (∃ h₁ tk₁, s₁ = { s with heap := h₁, toks := tk₁ }) → s₁.heap.IsList a us.toArray → Fr g L s₁.heap (fun y => if y = "way" then some (.ref a) else m y) → News g L s₁.heap (own ++ led) →
      wpAny (model PR w) (ktrTop dp un gd cn cs L ca ccd cl outer) (execs body (envX cn cs L ca ccd cl)) (WEnd g L own led m s₁) (fun _ _ => False) s₁)
    (done : ∀ h' tk m', Fr g L h' m' → (∀ y : Str, y ≠ "way" → m' y = m y) → News g L h' led → Q .next { s with heap := h', toks := tk }) :
    wpAny (model PR w) (ktrTop dp un gd cn cs L ca ccd cl outer) (exec (.For (.Name "way" px) (.Call (.Name "_law_orders" p5) [.Name "other" p6] [] p7) body [] pos) (envX cn cs L ca ccd cl)) Q (fun _ _ => False) s := by
  refine For_inv3 g kw (by show (cs.kind == .class || (cs.kind == .module && L != mainGlobals)) = false; rw [hk]; rfl) ?_ (by intro _; rfl) PassesOwn.never
  refine ways_iter B F X T hk hd hu mo hl2 i2 hn hn4 kO ko fun r items h₁ tk gr hr0 hrl hls => ?_
  refine wpAny_pyIter_list hrl ?_
  have hlt : r < h₁.objs.size := by obtain ⟨_, e, _⟩ := hrl; exact Heap.lt_size e
  have old : Grow h₁ (h₁.push { cls := .type "list_iterator", data := .fields #[.ref r, .int 0 0] }) := fun b o e => Heap.get?_push_of_some _ e
  have hLlt : L < h₁.objs.size := by obtain ⟨_, _, _, e, _⟩ := F.ns; exact Heap.lt_size (gr _ _ e)
  obtain ⟨wl, w1, w2⟩ := ways_led hls
  have N1 : News g L h₁ (wl ++ led) := fun q hq => by
    rcases List.mem_append.mp hq with hq | hq
    · obtain ⟨e1, e2⟩ := w1 q hq
      refine ⟨e1, fun e => ?_, ?_⟩
      · obtain ⟨o, _, _, ho, _⟩ := F.ns
        rw [e, ho] at e2; cases e2
      · cases z : g.get? q.1 with
        | none => rfl
        | some o => rw [F.keep _ _ z] at e2; cases e2
    · exact gr.news N q hq
  have hfr : ∀ b o, h₁.get? b = some o → b ≠ h₁.objs.size := fun b o e q => by
    have := Heap.lt_size e
    rw [q] at this
    exact Nat.lt_irrefl _ this
  -- the list of the ways stands too
  obtain ⟨oR, eR, cR, nR, dR⟩ := id hrl
  have N2 : News g L h₁ ((r, oR) :: (wl ++ led)) := fun q hq => by
    rcases List.mem_cons.mp hq with rfl | hq
    · refine ⟨eR, fun e => ?_, ?_⟩
      · obtain ⟨o, _, _, ho, _⟩ := F.ns
        dsimp only at e
        rw [e, ho] at hr0; cases hr0
      · cases z : g.get? r with
        | none => rfl
        | some o => rw [F.keep _ _ z] at hr0; cases hr0
    · exact N1 q hq
  refine ⟨h₁.objs.size, [h₁.objs.size, r], [h₁.objs.size], items.size, _, _, m, (r, oR) :: (wl ++ led), fun i m' news => (∀ y : Str, y ≠ "way" → m' y = m y) ∧ news = (r, oR) :: (wl ++ led), rfl,
    Walks.list rfl h₁.objs.size r (Nat.ne_of_lt hlt) items, ?_, ?_, ?_, ⟨⟨_, Heap.get?_push_size _ rfl, rfl, rfl⟩, hrl.at fun o e => old _ _ e⟩, old.fr (gr.fr F), old.news N2, ⟨fun _ _ => rfl, rfl⟩, ?_, ?_⟩
  · intro hb
    rcases List.mem_cons.mp hb with hb | hb
    · exact absurd hb (Nat.ne_of_lt hLlt)
    · rw [List.mem_singleton] at hb
      obtain ⟨o, _, _, ho, _⟩ := F.ns
      have hb' : L = r := hb
      rw [← hb', ho] at hr0; cases hr0
  · intro b hb
    rw [List.mem_singleton.mp hb]
    cases q : g.get? h₁.objs.size with
    | none => rfl
    | some o => exact absurd rfl (hfr _ _ (gr _ _ (F.keep _ _ q)))
  · intro q hq
    rw [List.mem_singleton]
    exact hfr _ _ (N2 q hq).1
  · intro i v m₁ news₁ s₁ own hs1 hi hP hJ had hown _ F1 N3
    obtain ⟨hm, rfl⟩ := hJ
    obtain ⟨ws, a, us, o, q1, rfl, q3, ⟨q4, q5⟩, q6⟩ := w2 i v (by simpa using hP)
    obtain ⟨h₂, tk₂, rfl⟩ := hs1
    have N4 : News g L h₂ ((own ++ (r, oR) :: wl) ++ led) := by
      have : (own ++ (r, oR) :: wl) ++ led = own ++ ((r, oR) :: (wl ++ led)) := by simp
      rw [this]; exact N3
    have F2 : Fr g L h₂ (fun y => if y = "way" then some (.ref a) else m y) := Fr.to F1 fun y => by
      by_cases hy : y = "way"
      · rw [if_pos hy, if_pos hy]
      · rw [if_neg hy, if_neg hy, hm y hy]
    have hla : h₂.IsList a us.toArray := ⟨o, (N4 (a, o) (by simp only [List.mem_append, List.mem_cons]; exact .inl (.inr (.inr q3)))).1, q4, q5⟩
    refine wpAny_mono (step ws us a (own ++ (r, oR) :: wl) _ q1 q6 ⟨h₂, tk₂, rfl⟩ hla F2 N4) (fun fl s' h' => ?_) fun _ _ e => e
    obtain ⟨rfl, h3, tk3, m3, rfl, F3, m3e, N5⟩ := h'
    refine ⟨rfl, h3, tk3, m3, (r, oR) :: (wl ++ led), rfl, F3, ?_, rfl, m3e, rfl⟩
    have : (own ++ (r, oR) :: wl) ++ led = own ++ ((r, oR) :: (wl ++ led)) := by simp
    rw [← this]; exact N5
  · intro h' tk' m' news' F' N' _ hJ
    obtain ⟨hm, rfl⟩ := hJ
    exact done h' tk' m' F' hm fun q hq => N' q (List.mem_cons_of_mem _ (List.mem_append_right _ hq))
end
end Mine
end

-- SegD
section
open PySem PySem.W PySem.Calls PyProof.Rows
set_option Elab.async false
set_option maxRecDepth 100000
set_option maxHeartbeats 8000000
namespace Mine
theorem off_SegD : True := by w_top off; trivial
local macro_rules | `(tactic| k_room) => `(tactic| ktr_room)
local macro_rules | `(tactic| k_units) => `(tactic| ktr_units)
local macro_rules | `(tactic| walk_at "exec Assign cons ListComp") => `(tactic| (k_here; (with_reducible show wpAny _ _ (exec (PySem.Stmt.Assign [PySem.Expr.Name _ _] (PySem.Expr.ListComp _ _ _ _) _) _) _ _ _); refine stop ?_))
local macro_rules | `(tactic| walk_at "exec For Name Call cons nil") => `(tactic| (k_here; (with_reducible show wpAny _ _ (exec (PySem.Stmt.For _ _ _ _ _) _) _ _ _); refine stop ?_))
local macro_rules | `(tactic| walk_at "call ref") => `(tactic| (k_here; (with_reducible show wpAny _ _ (call (Value.ref 86) _) _ _ _); refine stop ?_))
local macro_rules | `(tactic| walk_at "call ref") => `(tactic| (k_here; (with_reducible show wpAny _ _ (call (Value.ref 91) _) _ _ _); refine stop ?_))
def mE (mw : Option Value) (D3 : Addr) (mk : Option Value) (l r lS D2 : Addr) (M : Nat) (tkM : Tok) (most least : Int) (t1 t2 : Tok) : Str → Option Value := fun y => if y = "way" then mw else if y = "sums" then some (.ref D3) else mC mk l r lS D2 M tkM most least t1 t2 y
theorem segD (w : World) (p : Program) (loose : List Str) (mean : ExcName → Option Value) (mg mb : Str → Option Value) (lS : Addr) 
    (dp un : Nat) (gd : Option (List Code)) (a : Addr) (ccd : Value) (outer : List Env) (A₀ : Around) (base h₀ : Heap) (L : Addr) (s : Shared) (Q : Flow → Shared → Prop)
    (M : Nat) (D1 D2 : Addr) (vs1 vs2 : List Value) (c1 c2 : Nat) (o' : Obj) (ns1 ns2 : List Int) (tkM : Tok) (hM : M ≤ 4) (hl1 : ns1.length = M) (hl2 : ns2.length = M) (i1 : IntsAre vs1 ns1) (i2 : IntsAre vs2 ns2) (bn1 : Bnd ns1)
    (ne1 : (D1 : Nat) ≠ (L + 1 : Nat)) (ne2 : (D2 : Nat) ≠ (L + 1 : Nat)) (ne3 : (D2 : Nat) ≠ (D1 : Nat)) (hc : o'.data = .cell (some (.ref D1)))
    (l r : Addr) (mk : Option Value) (most least : Int) (t1 t2 : Tok) (sm : List Int) (hsm : (ordersN M ns2).map (dot ns1) = sm) (hpos : 0 < sm.length)
    (hmax : ∀ x, x ∈ sm → (∀ a, a ∈ sm → a ≤ x) → x = most) (hmin : ∀ x, x ∈ sm → (∀ a, a ∈ sm → x ≤ a) → x = least)
    (hS1 : -36 ≤ ns1.sum ∧ ns1.sum ≤ 36) (hS2 : -36 ≤ ns2.sum ∧ ns2.sum ≤ 36) (hch1 : ¬ (M : Int) * most < ns1.sum * ns2.sum) (hch2 : ¬ ns1.sum * ns2.sum < (M : Int) * least)
    (hws : ∀ ws ∈ ordersN M ns2, Bnd ws ∧ ws.length = M) (hway : ∀ ws ∈ ordersN M ns2, dot ns1 ws = most ↔ agP (ns1.zip ws) = false) 
    (B : Below A₀ base outer h₀) (F : Fr h₀ L s.heap (mC mk l r lS D2 M tkM most least t1 t2)) (X : (Mine.hd.heap_39 w.params).In h₀) (T : Top p loose mean mg mb h₀)
    (N : News h₀ L s.heap [(D2, listOf vs2.toArray c2), (D1, listOf vs1.toArray c1), (L + 1, o')])
    (hd : dp + 60 < recursionLimit) (hu : un + 8 * 60 < cLine)
    (go : ∀ (mw : Option Value) (D3 : Addr) (h' : Heap) (tk' : Nat), Fr h₀ L h' (mE mw D3 mk l r lS D2 M tkM most least t1 t2) →
      News h₀ L h' [(D2, listOf vs2.toArray c2), (D1, listOf vs1.toArray c1), (L + 1, o')] →
      wpAny (model PR w) (ktrTop dp un gd "law" lawScope L a ccd [("one", L + 1)] outer) (execs (lawBody.drop 10) (envX "law" lawScope L a ccd [("one", L + 1)])) Q (fun _ _ => False) { s with heap := h', toks := tk' }) :
    wpAny (model PR w) (ktrTop dp un gd "law" lawScope L a ccd [("one", L + 1)] outer) (execs (lawBody.drop 7) (envX "law" lawScope L a ccd [("one", L + 1)])) Q (fun _ _ => False) s := by
  have fill : Fill PySem.Challenge.rw_gm0005_01 Mine.hd.heap_39 := by k_fill; trivial
  clear fill
  obtain ⟨g, gens, drawn, toks, os⟩ := s
  dsimp only at *
  generalize hM : model PR w = MM
  simp only [lawBody, lawScope, PR, PySem.Challenge.pw_gm0005_01, List.drop_succ_cons, List.drop_zero]
  subst hM
  k_steps
  unfold Stop
  refine sumsTo (xs := ns1) (n := M) (clc := [("one", L + 1)]) B F X T rfl (by omega) (by omega) N (List.mem_cons_of_mem _ (List.mem_cons_of_mem _ List.mem_cons_self)) hc (by is_list) rfl (by is_list) i2 hl2 hM
    (fun ws vs hw hv => law_sum w p loose mean mg mb i1 hv (by rw [(hws ws hw).2, hl1]) (by omega) bn1 (hws ws hw).1) (by with_unfolding_all rfl) rfl (by with_unfolding_all rfl) (by decide) rfl (by decide) rfl rfl rfl (fun _ => rfl) (fun _ => rfl) rfl ?_
  intro D3 h3 tk3 ys3 hD3 k3 n3 pl3 i3
  obtain ⟨vs3, rfl⟩ : ∃ v : List Value, ys3 = v.toArray := ⟨ys3.toList, Array.toArray_toList.symm⟩
  rw [hsm] at i3
  obtain ⟨F1, c3, N1⟩ := put_list F N hD3 k3 n3 pl3
  have i3' : IntsAre vs3 sm := i3
  clear F N n3 i3 pl3 k3 hD3
  k_steps
  all_goals first
    | (with_reducible rename _ ≠ most => h9; exact absurd (hmax _ (by assumption) (by assumption)) h9)
    | (with_reducible rename _ ≠ least => h9; exact absurd (hmin _ (by assumption) (by assumption)) h9)
    | skip
  unfold Stop
  with_reducible rename Fr _ _ _ _ => F2
  with_reducible rename News _ _ _ _ => N2
  refine For_ways (n := M) B F2 X T rfl (by omega) (by omega) N2 rfl (by is_list) i2 hl2 hM rfl rfl rfl ?_ ?_
  · intro ws us aw own s₁ hw hiw hs1 hlw F3 N3
    obtain ⟨h₁, tk₁, rfl⟩ := hs1
    clear F2 N2
    dsimp only at hlw F3 N3
    k_steps
    unfold Stop
    refine Ctr.use B F3 X N3 T (law_sum w p loose mean mg mb i1 hiw (by rw [(hws ws hw).2, hl1]) (by omega) bn1 (hws ws hw).1 D1 aw) rfl ?_ ?_ ⟨News.isList N3 (List.mem_append_right _ (List.mem_cons_of_mem _ (List.mem_cons_of_mem _ List.mem_cons_self))), hlw⟩ ?_
    · ktr_room
    · ktr_units
    intro v4 h4 tk4 F4 N4 g4 r4
    obtain ⟨t4, rfl⟩ := r4
    have hlw4 := g4.list hlw
    clear F3 N3 g4 hlw
    k_steps
    unfold Stop
    refine Ctr.useB B F4 X N4 T (law_against w p loose mean mg mb i1 hiw (by rw [(hws ws hw).2, hl1]) (by omega) D1 aw) rfl ?_ ?_ ⟨News.isList N4 (List.mem_append_right _ (List.mem_cons_of_mem _ (List.mem_cons_of_mem _ List.mem_cons_self))), hlw4⟩ ?_
    · ktr_room
    · ktr_units
    intro h5 tk5 F5 N5
    clear F4 N4 hlw4
    have hwy := hway ws hw
    cases hag : agP (ns1.zip ws) with
    | true =>
      have hne : ¬ dot ns1 ws = most := fun e => by rw [hwy.mp e] at hag; cases hag
      k_steps
      all_goals first
        | exact ⟨rfl, h5, tk5, _, rfl, F5, fun y hy => if_neg hy, N5⟩
        | (exfalso; with_reducible rename (_ != _) = true => h9; simp [hne] at h9)
    | false =>
      have hne : dot ns1 ws = most := hwy.mpr hag
      k_steps
      all_goals first
        | exact ⟨rfl, h5, tk5, _, rfl, F5, fun y hy => if_neg hy, N5⟩
        | (exfalso; with_reducible rename (_ != _) = true => h9; simp [hne] at h9)
  · intro h' tk' m' F3 hm N3
    have F4 := Fr.to (m' := mE (m' "way") D3 mk l r lS D2 M tkM most least t1 t2) F3 (fun y => by
      unfold mE
      by_cases hy : y = "way"
      · subst hy; simp
      · rw [if_neg hy, hm y hy])
    exact go (m' "way") D3 h' tk' F4 (fun q hq => N3 q (List.mem_cons_of_mem _ hq))
end Mine
end

-- LX
section
open PySem PySem.W PySem.Calls PyProof.Rows
set_option Elab.async false
set_option maxRecDepth 100000
set_option maxHeartbeats 2000000
namespace Mine
theorem off_LX : True := by w_top off; trivial
section
variable {prog : Program} {w : World} {A : Around} {E : Value → Shared → Prop} {env : Env} {s : Shared} {m : Str → Option Value} {D2 : Addr} {vs2 : List Value} {ns2 : List Int} {k : Int} {tk : Tok} {i : Nat}
  {p1 p2 p3 p4 p5 p6 p7 p8 p9 p10 p11 p12 p13 p14 p15 p16 p17 p18 p19 p20 p21 p22 p23 : Pos}

/-- other[:k - 1] + [other[k], other[k - 1]] + other[k + 1:] -/
theorem swap_expr {Q : Value → Shared → Prop} (hn : s.heap.Ns env.locals m) (mo : m "other" = some (.ref D2)) (mk : m "k" = some (.int k tk)) (hck : env.scope.kind = .function) (ko : env.kindOf "other" = some .local) (kk : env.kindOf "k" = some .local)
    (hl : s.heap.IsList D2 vs2.toArray) (hi : IntsAre vs2 ns2) (hz : ns2.length ≤ 1000) (hk : k = 1 + (i : Int)) (hin : i + 1 < ns2.length)
    (hQ : ∀ r vs h' tk', Grow s.heap h' → s.heap.get? r = none → h'.PlainList r vs.toArray → IntsAre vs (ns2.take i ++ [ns2.getD (i + 1) 0, ns2.getD i 0] ++ ns2.drop (i + 2)) → Q (.ref r) { s with heap := h', toks := tk' }) :
    wpAny (model prog w) A (eval (.BinOp (.BinOp (.Subscript (.Name "other" p1) (.Slice none (some (.BinOp (.Name "k" p2) .Sub (.Constant (.int 1) 0 p3) p4)) none p5) p6) .Add (.List [.Subscript (.Name "other" p7) (.Name "k" p8) p9, .Subscript (.Name "other" p10) (.BinOp (.Name "k" p11) .Sub (.Constant (.int 1) 0 p12) p13) p14] p15) p16) .Add
      (.Subscript (.Name "other" p17) (.Slice (some (.BinOp (.Name "k" p18) .Add (.Constant (.int 1) 0 p19) p20)) none none p21) p22) p23) env) Q E s := by
  subst hk
  refine wpAny_BinOp ?_
  refine wpAny_BinOp ?_
  refine Subscript_ ?_
  refine name_loc hn mo hck ko ?_
  refine wpAny_Slice ?_
  refine wpAny_evalPart_none ?_
  refine wpAny_evalPart_some ?_
  refine wpAny_BinOp ?_
  refine name_loc hn mk hck kk ?_
  refine wpAny_Constant_int ?_
  refine sub_int ?_
  refine wpAny_evalPart_none ?_
  have hlen := hi.length
  refine slice_raw (s := { s with toks := _ }) hl .none (.int _ _) .none (by simp) (fun h1 g1 e1 => ?_) (by with_unfolding_all rfl) (by intro _; with_unfolding_all rfl) (by rw [sizeLine_eq, List.size_toArray]; omega)
  refine List_ ?_
  refine wpAny_items_cons ?_
  refine Subscript_ ?_
  refine name_loc (hn.keeps g1) mo hck ko ?_
  refine name_loc (hn.keeps g1) mk hck kk ?_
  refine sub_at (g1.list hl) hi hz (by omega) (by omega) (fun t1 => ?_) (by with_unfolding_all rfl)
  refine wpAny_items_cons ?_
  refine Subscript_ ?_
  refine name_loc (hn.keeps g1) mo hck ko ?_
  refine wpAny_BinOp ?_
  refine name_loc (hn.keeps g1) mk hck kk ?_
  refine wpAny_Constant_int ?_
  refine sub_int ?_
  refine sub_at (s := { s with heap := h1, toks := _ }) (g1.list hl) hi hz (by omega) (by omega) (fun t2 => ?_) (by with_unfolding_all rfl)
  refine wpAny_items_nil ?_
  refine list_raw (s := { s with heap := h1, toks := _ }) (fun h2 g2 e2 => ?_) (by simp [sizeLine_eq])
  have i1 := slice_ints_uptoW hi (y := 1 + (i : Int) - 1) (by omega)
  have i2 := slice_ints_fromW hi (x := 1 + (i : Int) + 1) (by omega)
  have z1 := i1.length
  have z2 := i2.length
  rw [List.length_take] at z1
  rw [List.length_drop] at z2
  refine add_raw (s := { s with heap := h2, toks := _ }) (vs := (slicePick vs2.toArray none (some (1 + (i : Int) - 1)) none).toList) ⟨_, g2 _ _ e1, rfl, _, by rw [Array.toArray_toList]⟩ ⟨_, e2, rfl, _, rfl⟩ (fun h3 g3 e3 => ?_) (by rw [sizeLine_eq]; simp only [List.length_cons, List.length_nil]; omega)
  have g13 : Grow s.heap h3 := (g1.trans g2).trans g3
  refine Subscript_ ?_
  refine name_loc (hn.keeps g13) mo hck ko ?_
  refine wpAny_Slice ?_
  refine wpAny_evalPart_some ?_
  refine wpAny_BinOp ?_
  refine name_loc (hn.keeps g13) mk hck kk ?_
  refine wpAny_Constant_int ?_
  refine add_int ?_
  refine wpAny_evalPart_none ?_
  refine wpAny_evalPart_none ?_
  refine slice_raw (s := { s with heap := h3, toks := _ }) (g13.list hl) (.int _ _) .none .none (by simp) (fun h4 g4 e4 => ?_) (by with_unfolding_all rfl) (by intro _; with_unfolding_all rfl) (by rw [sizeLine_eq, List.size_toArray]; omega)
  refine add_raw (s := { s with heap := h4, toks := _ }) (ws := (slicePick vs2.toArray (some (1 + (i : Int) + 1)) none none).toList) ⟨_, g4 _ _ e3, rfl, _, rfl⟩ ⟨_, e4, rfl, _, by rw [Array.toArray_toList]⟩ (fun h5 g5 e5 => ?_) (by rw [sizeLine_eq]; simp only [List.length_append, List.length_cons, List.length_nil]; omega)
  have g15 : Grow s.heap h5 := (g13.trans g4).trans g5
  refine hQ _ _ h5 _ g15 (Grow.size_none (g13.trans g4) (fresh_size _ (Nat.le_refl _))) ⟨_, e5⟩ ?_
  have e1' : (1 + (i : Int) - 1).toNat = i := by omega
  have e2' : (1 + (i : Int) + 1).toNat = i + 2 := by omega
  have e3' : (1 + (i : Int)).toNat = i + 1 := by omega
  rw [e1'] at i1
  rw [e2'] at i2
  rw [e1', e3']
  exact (i1.append (.cons _ _ (.cons _ _ .nil))).append i2
end
end Mine
end

-- SegE
section
open PySem PySem.W PySem.Calls PyProof.Rows
set_option Elab.async false
set_option maxRecDepth 100000
set_option maxHeartbeats 8000000
namespace Mine
theorem off_SegE : True := by w_top off; trivial
local macro_rules | `(tactic| k_room) => `(tactic| ktr_room)
local macro_rules | `(tactic| k_units) => `(tactic| ktr_units)
local macro_rules | `(tactic| walk_at "exec For Name Call cons nil") => `(tactic| (k_here; (with_reducible show wpAny _ _ (exec (PySem.Stmt.For _ _ _ _ _) _) _ _ _); refine stop ?_))
local macro_rules | `(tactic| walk_at "call ref") => `(tactic| (k_here; (with_reducible show wpAny _ _ (call (Value.ref 86) _) _ _ _); refine stop ?_))
local macro_rules | `(tactic| walk_at "call ref") => `(tactic| (k_here; (with_reducible show wpAny _ _ (call (Value.ref 91) _) _ _ _); refine stop ?_))
local macro_rules | `(tactic| walk_at "subscriptTail Name Name ref int") => `(tactic| (k_here; k_dflt (refine' sub_at ?l ?i ?z ?a ?b ?_ ?s; (case l => is_list); (case i => assumption); (case z => omega); (case a => omega); (case b => omega); (case s => with_unfolding_all rfl); k_whole); intro t'))
local macro_rules | `(tactic| walk_at "subscriptTail Name BinOp ref int") => `(tactic| (k_here; k_dflt (refine' sub_at ?l ?i ?z ?a ?b ?_ ?s; (case l => is_list); (case i => assumption); (case z => omega); (case a => omega); (case b => omega); (case s => with_unfolding_all rfl); k_whole); intro t'))
local macro_rules | `(tactic| walk_at "eval BinOp") => `(tactic| (k_here; (with_reducible show wpAny _ _ (eval (PySem.Expr.BinOp (PySem.Expr.BinOp (PySem.Expr.Subscript _ _ _) _ _ _) _ _ _) _) _ _ _); refine stop ?_))
local macro_rules | `(tactic| walk_at "eval ListComp") => `(tactic| (k_here; (with_reducible show wpAny _ _ (eval (PySem.Expr.ListComp _ _ _ _) _) _ _ _); refine stop ?_))
theorem rng_ok2 : ∀ {M : Nat}, M ≤ 4 → Builtin.Range.small 1 (M : Int) 1 = true ∧ Builtin.Range.rangeSize 1 (M : Int) 1 = ((M - 1 : Nat) : Int)
  | 0, _ => by decide
  | 1, _ => by decide
  | 2, _ => by decide
  | 3, _ => by decide
  | 4, _ => by decide
/-- two neighbours exchanged -/
def swp (ns : List Int) (i : Nat) : List Int := ns.take i ++ [ns.getD (i + 1) 0, ns.getD i 0] ++ ns.drop (i + 2)
theorem swp_len {ns : List Int} {i : Nat} (h : i + 1 < ns.length) : (swp ns i).length = ns.length := by
  unfold swp
  simp only [List.length_append, List.length_take, List.length_drop, List.length_cons, List.length_nil]
  omega
theorem swp_bnd {ns : List Int} {i : Nat} (b : Bnd ns) (h : i + 1 < ns.length) : Bnd (swp ns i) := by
  intro x hx
  unfold swp at hx
  simp only [List.mem_append, List.mem_cons, List.not_mem_nil, or_false] at hx
  rcases hx with (hx | hx | hx) | hx
  · exact b x (List.mem_of_mem_take hx)
  · rw [hx]; exact b _ (kso_getD h)
  · rw [hx]; exact b _ (kso_getD (by omega))
  · exact b x (List.mem_of_mem_drop hx)
theorem led_back {h₀ h : Heap} {L : Addr} {own : List (Addr × Obj)} {a b c : Addr × Obj} (N : News h₀ L h (a :: b :: c :: own)) : News h₀ L h (own ++ [a, b, c]) := fun q hq => N q (by
  simp only [List.mem_cons, List.mem_append, List.not_mem_nil, or_false] at hq ⊢
  rcases hq with h | h | h | h
  · exact .inr (.inr (.inr h))
  · exact .inl h
  · exact .inr (.inl h)
  · exact .inr (.inr (.inl h)))
theorem led_less {h₀ h : Heap} {L : Addr} {a : Addr × Obj} {led : List (Addr × Obj)} (N : News h₀ L h (a :: led)) : News h₀ L h led := fun q hq => N q (List.mem_cons_of_mem _ hq)
theorem segE (w : World) (p : Program) (loose : List Str) (mean : ExcName → Option Value) (mg mb : Str → Option Value) (lS : Addr) 
    (dp un : Nat) (gd : Option (List Code)) (a : Addr) (ccd : Value) (outer : List Env) (A₀ : Around) (base h₀ : Heap) (L : Addr) (s : Shared) (Q : Flow → Shared → Prop)
    (M : Nat) (D1 D2 : Addr) (vs1 vs2 : List Value) (c1 c2 : Nat) (o' : Obj) (ns1 ns2 : List Int) (tkM : Tok) (hM : M ≤ 4) (hl1 : ns1.length = M) (hl2 : ns2.length = M) (i1 : IntsAre vs1 ns1) (i2 : IntsAre vs2 ns2) (bn1 : Bnd ns1) (bn2 : Bnd ns2)
    (ne1 : (D1 : Nat) ≠ (L + 1 : Nat)) (ne2 : (D2 : Nat) ≠ (L + 1 : Nat)) (ne3 : (D2 : Nat) ≠ (D1 : Nat)) (hc : o'.data = .cell (some (.ref D1)))
    (l r D3 : Addr) (mk mw : Option Value) (most least : Int) (t1 t2 : Tok) 
    (B : Below A₀ base outer h₀) (F : Fr h₀ L s.heap (mE mw D3 mk l r lS D2 M tkM most least t1 t2)) (X : (Mine.hd.heap_39 w.params).In h₀) (T : Top p loose mean mg mb h₀)
    (N : News h₀ L s.heap [(D2, listOf vs2.toArray c2), (D1, listOf vs1.toArray c1), (L + 1, o')])
    (hexch : ∀ i, i + 1 < M → agP ([ns1.getD i 0, ns1.getD (i + 1) 0].zip [ns2.getD i 0, ns2.getD (i + 1) 0]) = true → dot ns1 ns2 ≤ dot ns1 (swp ns2 i))
    (bn3 : Bnd (ns1.map fun n => n + 3)) (hS2 : -36 ≤ ns2.sum ∧ ns2.sum ≤ 36) (hadd : dot (ns1.map fun n => n + 3) ns2 = dot ns1 ns2 + 3 * ns2.sum)
    (hret : ∀ h' tk' m', Fr h₀ L h' m' → Q (.ret (.bool true)) { s with heap := h', toks := tk' })
    (hd : dp + 60 < recursionLimit) (hu : un + 8 * 60 < cLine) :
    wpAny (model PR w) (ktrTop dp un gd "law" lawScope L a ccd [("one", L + 1)] outer) (execs (lawBody.drop 10) (envX "law" lawScope L a ccd [("one", L + 1)])) Q (fun _ _ => False) s := by
  have fill : Fill PySem.Challenge.rw_gm0005_01 Mine.hd.heap_39 := by k_fill; trivial
  clear fill
  obtain ⟨g, gens, drawn, toks, os⟩ := s
  dsimp only at *
  generalize hM : model PR w = MM
  simp only [lawBody, lawScope, PR, PySem.Challenge.pw_gm0005_01, List.drop_succ_cons, List.drop_zero]
  subst hM
  k_steps
  unfold Stop
  refine For_rng (lo := 1) (n := M - 1) (hi := (M : Int)) (fun i m news => (∀ y : Str, y ≠ "k" → y ≠ "changed" → m y = mE mw D3 mk l r lS D2 M tkM most least t1 t2 y) ∧ news = [(D2, listOf vs2.toArray c2), (D1, listOf vs1.toArray c1), (L + 1, o')]) rfl F N rfl rfl ?_ (rng_ok2 hM).1 (rng_ok2 hM).2 ⟨fun _ _ _ => rfl, rfl⟩ ?_ ?_ (hE := PassesOwn.never)
  · refine Call_ ?_
    refine nameX_B F X (topRead_of T) (by k_is) boot_range (by decide) ?_ rfl rfl (by decide)
    walk1
    refine wpAny_items_cons ?_
    refine wpAny_Constant_int ?_
    refine wpAny_items_cons ?_
    refine name_loc F.ns rfl rfl rfl ?_
    refine wpAny_items_nil ?_
    refine call_range_2 ?_
    exact ⟨_, _, _, _, _, _, rfl, rfl, fun b o e => Heap.get?_push_of_some _ e, Heap.get?_push_size _ rfl⟩
  · intro i t m₁ news₁ s₁ own hs1 hi hJ had hown F2 N3
    obtain ⟨h₁, tk₁, rfl⟩ := hs1
    obtain ⟨hm, rfl⟩ := hJ
    have F3 := Fr.to (m' := fun y => if y = "k" then some (.int (1 + (i : Int)) t) else if y = "changed" then m₁ "changed" else mE mw D3 mk l r lS D2 M tkM most least t1 t2 y) F2 (fun y => by
      by_cases hy : y = "k"
      · subst hy; simp
      · rw [if_neg hy, if_neg hy]
        by_cases hy2 : y = "changed"
        · subst hy2; simp
        · rw [if_neg hy2, hm y hy hy2])
    dsimp only [envX] at F3 N3 ⊢
    generalize m₁ "changed" = mch at F3
    clear F2 hm F N had
    have N4 : News h₀ L h₁ ((D2, listOf vs2.toArray c2) :: (D1, listOf vs1.toArray c1) :: (L + 1, o') :: own) := fun q hq => N3 q (by simp only [List.mem_cons, List.mem_append, List.not_mem_nil, or_false] at hq ⊢; rcases hq with h | h | h | h; exact .inr (.inl h); exact .inr (.inr (.inl h)); exact .inr (.inr (.inr h)); exact .inl h)
    clear N3
    have e1 : (1 + (i : Int) - 1).toNat = i := by omega
    have e2 : (1 + (i : Int)).toNat = i + 1 := by omega
    k_steps
    unfold Stop
    with_reducible rename Fr _ _ _ _ => F5
    with_reducible rename News _ _ _ _ => N5
    simp only [e1, e2] at N5
    refine Ctr.useB B F5 X N5 T (law_against w p loose mean mg mb (xs := [ns1.getD i 0, ns1.getD (i + 1) 0]) (ys := [ns2.getD i 0, ns2.getD (i + 1) 0]) (.cons _ _ (.cons _ _ .nil)) (.cons _ _ (.cons _ _ .nil)) rfl (by simp) _ _) rfl ?_ ?_ ⟨by is_list, by is_list⟩ ?_
    · ktr_room
    · ktr_units
    intro h6 tk6 F6 N6
    clear F5 N5
    cases hag : agP ([ns1.getD i 0, ns1.getD (i + 1) 0].zip [ns2.getD i 0, ns2.getD (i + 1) 0]) with
    | false =>
      k_steps
      exact ⟨rfl, h6, tk6, _, _, rfl, F6, led_back (led_less (led_less N6)), rfl, fun y q1 q2 => by simp [q1, q2], rfl⟩
    | true =>
      have hsw := hexch i (by omega) hag
      k_steps
      unfold Stop
      refine swap_expr (i := i) F6.ns rfl rfl rfl rfl rfl (by is_list) i2 (by omega) rfl (by omega) (fun rc vc h7 tk7 g7 n7 pl7 ic => ?_)
      have ic' : IntsAre vc (swp ns2 i) := ic
      obtain ⟨c7, N7⟩ := news_plain F6 N6 n7 g7 pl7
      have F7 := g7.fr F6
      have ner := ne_of_led N6 n7 (a := D2) (by k_mem)
      clear F6 N6 g7 n7 pl7 ic
      k_steps
      unfold Stop
      with_reducible rename Fr _ _ _ _ => F8
      with_reducible rename News _ _ _ _ => N8
      refine Ctr.useI B F8 X N8 T (law_sum w p loose mean mg mb i1 ic' (by rw [swp_len (by omega)]; omega) (by omega) bn1 (swp_bnd bn2 (by omega)) _ _) rfl ?_ ?_ ⟨by is_list, by is_list⟩ ?_
      · ktr_room
      · ktr_units
      intro t9 h9 tk9 F9 N9
      clear F8 N8
      k_steps
      unfold Stop
      refine Ctr.useI B F9 X N9 T (law_sum w p loose mean mg mb i1 i2 (by omega) (by omega) bn1 bn2 _ _) rfl ?_ ?_ ⟨by is_list, by is_list⟩ ?_
      · ktr_room
      · ktr_units
      intro t10 h10 tk10 F10 N10
      clear F9 N9
      k_steps
      exact ⟨rfl, h10, tk10, _, _, rfl, F10, led_back (led_less (led_less (led_less N10))), rfl, fun y q1 q2 => by simp [q1, q2], rfl⟩
  · intro h' tk' m' news' F3 N3 had hJ
    obtain ⟨hm, rfl⟩ := hJ
    have F4 := Fr.to (m' := fun y => if y = "k" then m' "k" else if y = "changed" then m' "changed" else mE mw D3 mk l r lS D2 M tkM most least t1 t2 y) F3 (fun y => by
      by_cases hy : y = "k"
      · subst hy; simp
      · rw [if_neg hy]
        by_cases hy2 : y = "changed"
        · subst hy2; simp
        · rw [if_neg hy2, hm y hy hy2])
    dsimp only [envX] at F4 N3 ⊢
    generalize m' "k" = mk9 at F4
    generalize m' "changed" = mc9 at F4
    clear F3 hm F N had
    k_steps
    unfold Stop
    refine intComp (cl := []) (ns := ns1) (fun n => n + 3) rfl (by with_unfolding_all rfl) (by decide) rfl (by decide) rfl (by omega) ?_ ?_ ?_
    · refine name_cel N3 (List.mem_cons_of_mem _ (List.mem_cons_of_mem _ List.mem_cons_self)) hc rfl rfl rfl ?_
      exact ⟨_, vs1, _, _, rfl, rfl, Grow.refl _, by is_list, i1⟩
    · intro C n t s₃ m₃ E' hn hC hm
      exact plus_elt (C := C) hC hm rfl rfl
    intro D4 h4 tk4 ys4 hD4 g4 pl4 i4
    obtain ⟨vs4, rfl⟩ : ∃ v : List Value, ys4 = v.toArray := ⟨ys4.toList, Array.toArray_toList.symm⟩
    have i4' : IntsAre vs4 (ns1.map fun n => n + 3) := i4
    obtain ⟨c4, N4⟩ := news_plain F4 N3 hD4 g4 pl4
    have F5 := g4.fr F4
    have ner := ne_of_led N3 hD4 (a := D2) (by k_mem)
    clear F4 N3 g4 hD4 pl4 i4
    k_steps
    unfold Stop
    refine Ctr.useI B F5 X N4 T (law_sum w p loose mean mg mb i4' i2 (by rw [List.length_map]; omega) (by rw [List.length_map]; omega) bn3 bn2 _ _) rfl ?_ ?_ ⟨by is_list, by is_list⟩ ?_
    · ktr_room
    · ktr_units
    intro t6 h6 tk6 F6 N6
    clear F5 N4
    k_steps
    unfold Stop
    refine Ctr.useI B F6 X N6 T (law_sum w p loose mean mg mb i1 i2 (by omega) (by omega) bn1 bn2 _ _) rfl ?_ ?_ ⟨by is_list, by is_list⟩ ?_
    · ktr_room
    · ktr_units
    intro t7 h7 tk7 F7 N7
    clear F6 N6
    k_steps
    rw [hadd, beq_self_eq_true]
    with_reducible rename Fr _ _ _ _ => F8
    exact hret _ _ _ F8
end Mine
end

-- Law
section
open PySem PySem.W PySem.Calls PyProof.Rows
set_option Elab.async false
set_option maxRecDepth 100000
set_option maxHeartbeats 8000000
namespace Mine
theorem off_Law : True := by w_top off; trivial
/-- the plain law: what the walk asks of two rows of small numbers -/
structure Plain (xs ys : List Int) : Prop where
  ul : ∀ ns : List Int, ns.Perm xs → ns.Pairwise (· ≤ ·) → insAll xs = ns
  ur : ∀ ns : List Int, ns.Perm ys → ns.Pairwise (· ≤ ·) → insAll ys = ns
  b1 : Bnd (insAll xs)
  b2 : Bnd (insAll ys)
  pos : 0 < ((ordersN xs.length ys).map (dot xs)).length
  max : ∀ x, x ∈ (ordersN xs.length ys).map (dot xs) → (∀ a, a ∈ (ordersN xs.length ys).map (dot xs) → a ≤ x) → x = dot (insAll xs) (insAll ys)
  min : ∀ x, x ∈ (ordersN xs.length ys).map (dot xs) → (∀ a, a ∈ (ordersN xs.length ys).map (dot xs) → x ≤ a) → x = dot (insAll xs) (insAll ys).reverse
  s1 : -36 ≤ xs.sum ∧ xs.sum ≤ 36
  s2 : -36 ≤ ys.sum ∧ ys.sum ≤ 36
  ch1 : ¬ (xs.length : Int) * dot (insAll xs) (insAll ys) < xs.sum * ys.sum
  ch2 : ¬ xs.sum * ys.sum < (xs.length : Int) * dot (insAll xs) (insAll ys).reverse
  ways : ∀ ws ∈ ordersN xs.length ys, Bnd ws ∧ ws.length = xs.length
  way : ∀ ws ∈ ordersN xs.length ys, dot xs ws = dot (insAll xs) (insAll ys) ↔ agP (xs.zip ws) = false
  exch : ∀ i, i + 1 < xs.length → agP ([xs.getD i 0, xs.getD (i + 1) 0].zip [ys.getD i 0, ys.getD (i + 1) 0]) = true → dot xs ys ≤ dot xs (swp ys i)
  bn3 : Bnd (xs.map fun n => n + 3)
  add : dot (xs.map fun n => n + 3) ys = dot xs ys + 3 * ys.sum

theorem small_bnd {xs : List Int} (h : Small xs) : Bnd xs := fun x hx => by have := h x hx; omega

theorem law_body (plain : ∀ xs ys : List Int, xs.length ≤ 4 → ys.length = xs.length → Small xs → Small ys → Plain xs ys)
    (w : World) (p : Program) (loose : List Str) (mean : ExcName → Option Value) (mg mb : Str → Option Value) (lS : Addr) (vsS : List Value) (xs : List Int) (oC : Obj)
    (dp un : Nat) (gd : Option (List Code)) (a : Addr) (ccd : Value) (outer : List Env) (A₀ : Around) (base h₀ : Heap) (L : Addr) (s : Shared) (Q : Flow → Shared → Prop)
    (B : Below A₀ base outer h₀) (F : Fr h₀ L s.heap (fun y => if y = "script" then some (.ref lS) else none)) (X : (Mine.hd.heap_39 w.params).In h₀) (T : Top p loose mean mg mb h₀) (N : News h₀ L s.heap [(L + 1, oC)]) (hc : oC.data = .cell none)
    (hl : h₀.IsList lS vsS.toArray) (hi : IntsAre vsS xs) (hz : xs.length ≤ 63) (hd : dp + 60 < recursionLimit) (hu : un + 8 * 60 < cLine)
    (hret : ∀ h' tk' m', Fr h₀ L h' m' → Q (.ret (.bool true)) { s with heap := h', toks := tk' }) :
    wpAny (model PR w) (ktrTop dp un gd "law" lawScope L a ccd [("one", L + 1)] outer) (execs lawBody (envX "law" lawScope L a ccd [("one", L + 1)])) Q (fun _ _ => False) s := by
  refine segA w p loose mean mg mb lS vsS xs oC dp un gd a ccd outer A₀ base h₀ L s Q _ B F X T N hc hl hi hz hd hu ?_
  intro M D1 D2 vs1 vs2 c1 c2 o' ns1 ns2 tkM h1 tk1 hM hl1 hl2 s1 s2 i1 i2 ne1 ne2 ne3 ho F1 N1
  subst hl1
  have pl := plain ns1 ns2 hM hl2 s1 s2
  refine segB w p loose mean mg mb lS dp un gd a ccd outer A₀ base h₀ L _ Q ns1.length D1 D2 vs1 vs2 c1 c2 o' ns1 ns2 tkM hM rfl hl2 s1 s2 i1 i2 ne1 ne2 ne3 ho B F1 X T N1 hd hu ?_
  intro l r rs ls cr cl mk h2 tk2 l5 l4 il ir F2 N2
  refine segC w p loose mean mg mb lS dp un gd a ccd outer A₀ base h₀ L _ Q ns1.length D1 D2 vs1 vs2 c1 c2 o' ns1 ns2 tkM hM rfl hl2 s1 s2 i1 i2 ne1 ne2 ne3 ho l r rs ls cr cl mk l5 l4 (insAll ns1) (insAll ns2) il ir (insAll_length _) (by rw [insAll_length]; exact hl2) pl.b1 pl.b2 pl.ul pl.ur B F2 X T N2 hd hu ?_
  intro t1 t2 h3 tk3 F3 N3
  refine segD w p loose mean mg mb lS dp un gd a ccd outer A₀ base h₀ L _ Q ns1.length D1 D2 vs1 vs2 c1 c2 o' ns1 ns2 tkM hM rfl hl2 i1 i2 (small_bnd s1) ne1 ne2 ne3 ho l r mk _ _ t1 t2 _ rfl pl.pos pl.max pl.min pl.s1 pl.s2 pl.ch1 pl.ch2 pl.ways pl.way B F3 X T N3 hd hu ?_
  intro mw D3 h4 tk4 F4 N4
  exact segE w p loose mean mg mb lS dp un gd a ccd outer A₀ base h₀ L _ Q ns1.length D1 D2 vs1 vs2 c1 c2 o' ns1 ns2 tkM hM rfl hl2 i1 i2 (small_bnd s1) (small_bnd s2) ne1 ne2 ne3 ho l r D3 mk mw _ _ t1 t2 B F4 X T N4 pl.exch pl.bn3 pl.s2 pl.add (fun h' tk' m' k => hret h' tk' m' k) hd hu

theorem cut {M : Model} {A : Around} {b : List Stmt} {env : Env} {Q : Flow → Shared → Prop} {E : Value → Shared → Prop} {s : Shared} (env9 : Env) (he : env = env9)  (A9 : Around) (hA : A = A9) (hb : b = lawBody) (h : wpAny M A9 (execs lawBody env9) Q (fun _ _ => False) s) : wpAny M A (execs b env) Q E s := by
   subst hA; subst he; subst hb; exact wpAny_mono h (fun _ _ x => x) (fun _ _ x => x.elim)
theorem t0 (plain : ∀ xs ys : List Int, xs.length ≤ 4 → ys.length = xs.length → Small xs → Small ys → Plain xs ys) : PySem.Challenge.rw_gm0005_01.Holds := by
  apply Mine.hd
  k_go0
  refine cut (envX "law" lawScope _ _ _ [("one", _ + 1)]) rfl (ktrTop _ _ _ "law" lawScope _ _ _ [("one", _ + 1)] []) rfl rfl ?_
  with_reducible rename Fr _ _ _ _ => F9
  with_reducible rename News _ _ _ _ => N9
  with_reducible rename Below _ _ _ _ => B9
  with_reducible rename Top _ _ _ _ _ _ => T9
  with_reducible rename _ = Data.cell _ => d9
  with_reducible rename IntsAre _ _ => i9
  refine law_body plain _ _ _ _ _ _ _ _ _ _ _ _ _ _ _ _ _ _ _ _ _ _ B9 (Fr.to F9 ?_) (by assumption) T9 N9 (d9.trans ?_) (by assumption) i9 ?_ ?_ ?_ ?_
  · intro y; exact rfl
  · rfl
  · omega
  · simp only [depth_deeper, depth_caller]; decide
  · have hcL9 := cLine_is
    simp only [units_deeper, units_caller]; omega
  · intro h' tk' m' k
    clear F9 N9
    dsimp only
    k_steps
end Mine
end

-- P1
section
open PySem PySem.W PySem.Calls PyProof.Rows
set_option Elab.async false
set_option maxRecDepth 100000
set_option maxHeartbeats 1000000
namespace Mine
theorem off_P1 : True := by w_top off; trivial

abbrev Srt (l : List Int) : Prop := l.Pairwise (· ≤ ·)

/-! sorting by insertion -/
def oins (y : Int) : List Int → List Int
  | [] => [y]
  | z :: l => if y ≤ z then y :: z :: l else z :: oins y l
def isort : List Int → List Int
  | [] => []
  | y :: l => oins y (isort l)
theorem oins_perm (y : Int) : ∀ l : List Int, (oins y l).Perm (y :: l)
  | [] => .refl _
  | z :: l => by
    unfold oins
    split
    · exact .refl _
    · exact ((oins_perm y l).cons z).trans (.swap y z l)
theorem isort_perm : ∀ l : List Int, (isort l).Perm l
  | [] => .refl _
  | y :: l => (oins_perm y (isort l)).trans ((isort_perm l).cons y)
theorem oins_srt (y : Int) : ∀ {l : List Int}, Srt l → Srt (oins y l)
  | [], _ => List.pairwise_singleton _ _
  | z :: l, h => by
    obtain ⟨h1, h2⟩ := List.pairwise_cons.mp h
    unfold oins
    split
    · rename_i hy
      refine List.pairwise_cons.mpr ⟨fun a ha => ?_, h⟩
      rcases List.mem_cons.mp ha with rfl | ha
      · exact hy
      · exact Int.le_trans hy (h1 a ha)
    · rename_i hy
      refine List.pairwise_cons.mpr ⟨fun a ha => ?_, oins_srt y h2⟩
      rcases List.mem_cons.mp ((oins_perm y l).mem_iff.mp ha) with rfl | ha
      · omega
      · exact h1 a ha
theorem isort_srt : ∀ l : List Int, Srt (isort l)
  | [] => .nil
  | y :: l => oins_srt y (isort_srt l)
theorem srt_uniq {a b : List Int} (p : a.Perm b) (ha : Srt a) (hb : Srt b) : a = b :=
  List.Perm.eq_of_pairwise (fun _ _ _ _ h1 h2 => Int.le_antisymm h1 h2) ha hb p
theorem isort_uniq {a b : List Int} (p : a.Perm b) : isort a = isort b :=
  srt_uniq (((isort_perm a).trans p).trans (isort_perm b).symm) (isort_srt a) (isort_srt b)

/-! the insertion by bisection -/
theorem bisN_spec (ns : List Int) (x : Int) (hs : Srt ns) : ∀ (f lo hi : Nat), lo ≤ hi → hi ≤ ns.length → hi - lo < 2 ^ f → (∀ j, j < lo → ns.getD j 0 < x) → (∀ j, hi ≤ j → j < ns.length → x ≤ ns.getD j 0) →
    (∀ j, j < bisN ns x f lo hi → ns.getD j 0 < x) ∧ (∀ j, bisN ns x f lo hi ≤ j → j < ns.length → x ≤ ns.getD j 0)
  | 0, lo, hi, h1, h2, h3, h4, h5 => by
    unfold bisN
    have : lo = hi := by omega
    subst this
    exact ⟨h4, h5⟩
  | f + 1, lo, hi, h1, h2, h3, h4, h5 => by
    have hmono : ∀ i j, i ≤ j → j < ns.length → ns.getD i 0 ≤ ns.getD j 0 := fun i j hij hj => by
      rcases Nat.lt_or_eq_of_le hij with h | rfl
      · have := List.pairwise_iff_getElem.mp hs i j (by omega) hj h
        simpa [List.getD_eq_getElem?_getD, hj, show i < ns.length by omega] using this
      · exact Int.le_refl _
    have hp : 2 ^ (f + 1) = 2 ^ f + 2 ^ f := by rw [Nat.pow_succ]; omega
    unfold bisN
    split
    · split
      · rename_i hlt hx
        refine bisN_spec ns x hs f _ _ (by omega) h2 (by omega) (fun j hj => ?_) h5
        exact Int.lt_of_le_of_lt (hmono j _ (by omega) (by omega)) hx
      · rename_i hlt hx
        refine bisN_spec ns x hs f _ _ (by omega) (by omega) (by omega) h4 (fun j hj hj2 => ?_)
        exact Int.le_trans (Int.not_lt.mp hx) (hmono _ j hj hj2)
    · have : lo = hi := by omega
      subst this
      exact ⟨h4, h5⟩
theorem ins_perm (ns : List Int) (x : Int) : (ins ns x).Perm (x :: ns) := by
  unfold ins
  refine List.perm_middle.trans ?_
  rw [List.take_append_drop]
theorem ins_srt {ns : List Int} (x : Int) (hs : Srt ns) (hl : ns.length ≤ 4) : Srt (ins ns x) := by
  obtain ⟨h1, h2⟩ := bisN_spec ns x hs 4 0 ns.length (Nat.zero_le _) (Nat.le_refl _) (by omega) (fun j hj => absurd hj (Nat.not_lt_zero _)) (fun j hj hj2 => absurd hj2 (by omega))
  have hb := bis_le ns x
  have e : bisN ns x 4 0 ns.length = bis ns x := rfl
  rw [e] at h1 h2
  unfold ins
  refine List.pairwise_append.mpr ⟨hs.sublist (List.take_sublist _ _), List.pairwise_cons.mpr ⟨fun a ha => ?_, hs.sublist (List.drop_sublist _ _)⟩, fun a ha b hb' => ?_⟩
  · obtain ⟨j, hj, rfl⟩ := List.mem_iff_getElem.mp ha
    rw [List.length_drop] at hj
    have := h2 (bis ns x + j) (by omega) (by omega)
    rw [List.getElem_drop]
    simpa [List.getD_eq_getElem?_getD, show bis ns x + j < ns.length by omega] using this
  · obtain ⟨j, hj, rfl⟩ := List.mem_iff_getElem.mp ha
    rw [List.length_take] at hj
    have h3 := h1 j (by omega)
    rw [List.getElem_take]
    have h4 : ns[j]'(by omega) < x := by simpa [List.getD_eq_getElem?_getD, show j < ns.length by omega] using h3
    rcases List.mem_cons.mp hb' with rfl | hb'
    · exact Int.le_of_lt h4
    · obtain ⟨k, hk, rfl⟩ := List.mem_iff_getElem.mp hb'
      rw [List.length_drop] at hk
      have := h2 (bis ns x + k) (by omega) (by omega)
      rw [List.getElem_drop]
      have h5 : x ≤ ns[bis ns x + k]'(by omega) := by simpa [List.getD_eq_getElem?_getD, show bis ns x + k < ns.length by omega] using this
      omega
theorem foldl_ins : ∀ (xs acc : List Int), Srt acc → acc.length + xs.length ≤ 4 → Srt (xs.foldl ins acc) ∧ (xs.foldl ins acc).Perm (acc ++ xs)
  | [], acc, h, _ => ⟨h, by rw [List.append_nil]; exact .refl _⟩
  | x :: xs, acc, h, hl => by
    rw [List.length_cons] at hl
    obtain ⟨h1, h2⟩ := foldl_ins xs (ins acc x) (ins_srt x h (by omega)) (by rw [ins_length]; omega)
    refine ⟨h1, h2.trans ?_⟩
    exact ((ins_perm acc x).append_right xs).trans List.perm_middle.symm
theorem insAll_eq {xs : List Int} (h : xs.length ≤ 4) : insAll xs = isort xs := by
  obtain ⟨h1, h2⟩ := foldl_ins xs [] .nil (by simpa using h)
  exact srt_uniq (h2.trans (isort_perm xs).symm) h1 (isort_srt xs)

/-! products added up -/
def SS : List (Int × Int) → Int
  | [] => 0
  | p :: r => p.1 * p.2 + SS r
theorem dot_eq : ∀ xs ys : List Int, dot xs ys = SS (xs.zip ys)
  | [], ys => by cases ys <;> rfl
  | x :: xs, [] => rfl
  | x :: xs, y :: ys => by rw [List.zip_cons_cons]; show x * y + dot xs ys = x * y + SS (xs.zip ys); rw [dot_eq xs ys]
theorem SS_perm {a b : List (Int × Int)} (p : a.Perm b) : SS a = SS b := by
  induction p with
  | nil => rfl
  | cons _ _ ih => simp only [SS, ih]
  | swap _ _ _ => simp only [SS]; omega
  | trans _ _ h1 h2 => exact h1.trans h2
theorem sum_perm {a b : List Int} (p : a.Perm b) : a.sum = b.sum := by
  induction p with
  | nil => rfl
  | cons _ _ ih => simp only [List.sum_cons, ih]
  | swap _ _ _ => simp only [List.sum_cons]; omega
  | trans _ _ h1 h2 => exact h1.trans h2

theorem swap_le {a b c d : Int} (h : a ≤ b) (h2 : d ≤ c) : a * c + b * d ≤ a * d + b * c := by
  have := Int.mul_nonneg (Int.sub_nonneg.mpr h) (Int.sub_nonneg.mpr h2)
  grind
theorem dot_oins (y : Int) : ∀ (a c : List Int), Srt a → a.length = c.length + 1 → dot a (y :: c) ≤ dot a (oins y c)
  | [], c, _, h => by simp at h
  | [x], c, _, h => by
    have : c = [] := List.length_eq_zero_iff.mp (by simpa using h.symm)
    subst this
    exact Int.le_refl _
  | x1 :: x2 :: a, [], _, h => by simp at h
  | x1 :: x2 :: a, z :: c, hs, h => by
    obtain ⟨h1, h2⟩ := List.pairwise_cons.mp hs
    unfold oins
    split
    · exact Int.le_refl _
    · rename_i hy
      have ih := dot_oins y (x2 :: a) c h2 (by simpa using h)
      have h12 := h1 x2 List.mem_cons_self
      have := swap_le (a := x1) (b := x2) (c := y) (d := z) h12 (by omega)
      simp only [dot] at ih ⊢
      omega
theorem dot_isort : ∀ (a b : List Int), Srt a → a.length = b.length → dot a b ≤ dot a (isort b)
  | [], [], _, _ => Int.le_refl _
  | x :: a, [], _, h => by simp at h
  | [], y :: b, _, h => by simp at h
  | x :: a, y :: b, hs, h => by
    obtain ⟨h1, h2⟩ := List.pairwise_cons.mp hs
    have ih := dot_isort a b h2 (by simpa using h)
    have hl := (isort_perm b).length_eq
    have := dot_oins y (x :: a) (isort b) hs (by rw [hl]; simpa using h)
    show x * y + dot a b ≤ dot (x :: a) (oins y (isort b))
    have e : dot (x :: a) (y :: isort b) = x * y + dot a (isort b) := rfl
    omega
theorem zip_unzip : ∀ ps : List (Int × Int), (ps.map (·.1)).zip (ps.map (·.2)) = ps
  | [] => rfl
  | p :: r => by rw [List.map_cons, List.map_cons, List.zip_cons_cons, zip_unzip r]

/-- lexicographic order of pairs -/
def lexB (p q : Int × Int) : Bool := decide (p.1 < q.1 ∨ (p.1 = q.1 ∧ p.2 ≤ q.2))
def lexS (ps : List (Int × Int)) : List (Int × Int) := ps.mergeSort lexB
theorem lexS_perm (ps : List (Int × Int)) : (lexS ps).Perm ps := List.mergeSort_perm _ _
theorem lexS_srt (ps : List (Int × Int)) : (lexS ps).Pairwise fun p q => p.1 < q.1 ∨ (p.1 = q.1 ∧ p.2 ≤ q.2) := by
  have := List.pairwise_mergeSort (le := lexB) (fun a b c => by unfold lexB; simp only [decide_eq_true_eq]; omega) (fun a b => by unfold lexB; simp only [Bool.or_eq_true, decide_eq_true_eq]; omega) ps
  exact this.imp (fun h => by unfold lexB at h; simpa using h)
theorem lexS_fst (ps : List (Int × Int)) : (lexS ps).map (·.1) = isort (ps.map (·.1)) := by
  refine srt_uniq (((lexS_perm ps).map _).trans (isort_perm _).symm) ?_ (isort_srt _)
  exact List.pairwise_map.mpr ((lexS_srt ps).imp fun h => by omega)

/-- A -/
theorem SS_le (ps : List (Int × Int)) : SS ps ≤ dot (isort (ps.map (·.1))) (isort (ps.map (·.2))) := by
  have h := dot_isort ((lexS ps).map (·.1)) ((lexS ps).map (·.2)) (by rw [lexS_fst]; exact isort_srt _) (by simp)
  rw [dot_eq _ ((lexS ps).map (·.2)), zip_unzip, SS_perm (lexS_perm ps), lexS_fst, isort_uniq ((lexS_perm ps).map (·.2))] at h
  exact h

theorem cmp_inv {p q : Int × Int} : inv2 p q = true ↔ (p.1 < q.1 ∧ q.2 < p.2) ∨ (q.1 < p.1 ∧ p.2 < q.2) := by
  unfold inv2 cmpI
  simp only [decide_eq_true_eq]
  constructor
  · intro h
    split at h <;> split at h <;> (try split at h) <;> (try split at h) <;> omega
  · intro h
    rcases h with ⟨h1, h2⟩ | ⟨h1, h2⟩
    · rw [if_pos h1, if_neg (by omega), if_pos h2]; decide
    · rw [if_neg (by omega), if_pos h1, if_pos h2]; decide
theorem agP_perm {a b : List (Int × Int)} (p : a.Perm b) : agP a = agP b := by
  unfold agP
  rw [p.any_eq]
  congr 1
  funext x
  exact p.any_eq
theorem ag_iff (ps : List (Int × Int)) : agP ps = true ↔ ∃ p ∈ ps, ∃ q ∈ ps, inv2 p q = true := by
  unfold agP
  simp only [List.any_eq_true]

/-- strictness -/
theorem SS_lt {ps : List (Int × Int)} (h : agP ps = true) : SS ps < dot (isort (ps.map (·.1))) (isort (ps.map (·.2))) := by
  obtain ⟨p, hp, q, hq, hi⟩ := (ag_iff ps).mp h
  have e1 := List.perm_cons_erase hp
  have hne : q ≠ p := fun e => by
    subst e
    rcases cmp_inv.mp hi with h | h <;> omega
  have hq' : q ∈ ps.erase p := by
    rcases List.mem_cons.mp (e1.mem_iff.mp hq) with h | h
    · exact absurd h hne
    · exact h
  have e2 := e1.trans ((List.perm_cons_erase hq').cons p)
  generalize (ps.erase p).erase q = rest at e2
  have h1 := SS_le ((p.1, q.2) :: (q.1, p.2) :: rest)
  have f1 : (((p.1, q.2) :: (q.1, p.2) :: rest).map (·.1)).Perm (ps.map (·.1)) := (e2.map (·.1)).symm
  have f2 : (((p.1, q.2) :: (q.1, p.2) :: rest).map (·.2)).Perm (ps.map (·.2)) := (List.Perm.swap p.2 q.2 (rest.map (fun x : Int × Int => x.2))).trans (e2.map (fun x : Int × Int => x.2)).symm
  rw [isort_uniq f1, isort_uniq f2] at h1
  rw [SS_perm e2]
  refine Int.lt_of_lt_of_le ?_ h1
  simp only [SS]
  have : 0 < (p.1 - q.1) * (q.2 - p.2) := by
    rcases cmp_inv.mp hi with ⟨a, b⟩ | ⟨a, b⟩
    · exact Int.mul_pos_of_neg_of_neg (by omega) (by omega)
    · exact Int.mul_pos (by omega) (by omega)
  grind
/-- equality -/
theorem SS_eq {ps : List (Int × Int)} (h : agP ps = false) : SS ps = dot (isort (ps.map (·.1))) (isort (ps.map (·.2))) := by
  rw [← agP_perm (lexS_perm ps)] at h
  have hs : Srt ((lexS ps).map (·.2)) := by
    refine List.pairwise_map.mpr ?_
    refine List.Pairwise.imp_of_mem (fun {p q} hp hq hl => ?_) (lexS_srt ps)
    rcases hl with hl | hl
    · apply Int.not_lt.mp
      intro hlt
      have : agP (lexS ps) = true := (ag_iff _).mpr ⟨p, hp, q, hq, cmp_inv.mpr (.inl ⟨hl, hlt⟩)⟩
      rw [this] at h; cases h
    · exact hl.2
  have e : (lexS ps).map (·.2) = isort (ps.map (·.2)) := srt_uniq (((lexS_perm ps).map _).trans (isort_perm _).symm) hs (isort_srt _)
  rw [← SS_perm (lexS_perm ps), ← zip_unzip (lexS ps), ← dot_eq, lexS_fst, e]
end Mine
end

-- P2
section
open PySem PySem.W PySem.Calls PyProof.Rows
set_option Elab.async false
set_option maxRecDepth 100000
set_option maxHeartbeats 1000000
namespace Mine
theorem off_P2 : True := by w_top off; trivial

theorem zip_fst : ∀ {xs ws : List Int}, xs.length = ws.length → (xs.zip ws).map (fun p : Int × Int => p.1) = xs
  | [], [], _ => rfl
  | [], _ :: _, h => by simp at h
  | _ :: _, [], h => by simp at h
  | x :: xs, w :: ws, h => by rw [List.zip_cons_cons, List.map_cons, zip_fst (by simpa using h)]
theorem zip_snd : ∀ {xs ws : List Int}, xs.length = ws.length → (xs.zip ws).map (fun p : Int × Int => p.2) = ws
  | [], [], _ => rfl
  | [], _ :: _, h => by simp at h
  | _ :: _, [], h => by simp at h
  | x :: xs, w :: ws, h => by rw [List.zip_cons_cons, List.map_cons, zip_snd (by simpa using h)]

/-! the three facts for two rows -/
theorem dot_le {xs ws : List Int} (h : xs.length = ws.length) : dot xs ws ≤ dot (isort xs) (isort ws) := by
  have := SS_le (xs.zip ws)
  rwa [zip_fst h, zip_snd h, ← dot_eq] at this
theorem dot_eq_iff {xs ws : List Int} (h : xs.length = ws.length) : dot xs ws = dot (isort xs) (isort ws) ↔ agP (xs.zip ws) = false := by
  constructor
  · intro e
    cases q : agP (xs.zip ws) with
    | false => rfl
    | true =>
      have := SS_lt q
      rw [zip_fst h, zip_snd h, ← dot_eq] at this
      omega
  · intro q
    have := SS_eq q
    rwa [zip_fst h, zip_snd h, ← dot_eq] at this

/-! all ways -/
theorem split_at {ys : List Int} {k : Nat} (hk : k < ys.length) : (ys.getD k 0 :: (ys.take k ++ ys.drop (k + 1))).Perm ys := by
  have e : ys.getD k 0 = ys[k] := by simp [List.getD_eq_getElem?_getD, hk]
  rw [e]
  refine List.perm_middle.symm.trans ?_
  rw [List.getElem_cons_drop, List.take_append_drop]
theorem orders_perm : ∀ (n : Nat) (ys : List Int), ys.length = n → ∀ ws ∈ ordersN n ys, ws.Perm ys
  | 0, ys, h, ws, hw => by
    rw [ordersN, List.mem_singleton] at hw
    rw [hw, List.length_eq_zero_iff.mp h]
  | n + 1, ys, h, ws, hw => by
    rw [ordersN] at hw
    obtain ⟨k, hk, hw⟩ := List.mem_flatMap.mp hw
    obtain ⟨us, hu, rfl⟩ := List.mem_map.mp hw
    rw [List.mem_range] at hk
    have := orders_perm n _ (by simp only [List.length_append, List.length_take, List.length_drop]; omega) us hu
    exact (this.cons _).trans (split_at hk)
theorem orders_all : ∀ (n : Nat) (ys : List Int), ys.length = n → ∀ ws : List Int, ws.Perm ys → ws ∈ ordersN n ys
  | 0, ys, h, ws, hw => by
    rw [ordersN, List.mem_singleton]
    have : ys = [] := List.length_eq_zero_iff.mp h
    subst this
    exact hw.eq_nil
  | n + 1, ys, h, [], hw => by
    have := hw.length_eq
    rw [h] at this
    cases this
  | n + 1, ys, h, w :: us, hw => by
    rw [ordersN]
    obtain ⟨k, hk, e⟩ := List.mem_iff_getElem.mp (hw.mem_iff.mp List.mem_cons_self)
    have e' : ys.getD k 0 = w := by rw [← e]; simp [List.getD_eq_getElem?_getD, hk]
    refine List.mem_flatMap.mpr ⟨k, List.mem_range.mpr hk, List.mem_map.mpr ⟨us, ?_, by rw [e']⟩⟩
    refine orders_all n _ (by simp only [List.length_append, List.length_take, List.length_drop]; omega) us ?_
    have := hw.trans (split_at hk).symm
    rw [e'] at this
    exact this.cons_inv

/-! the greatest sum is reached -/
theorem perm_fst {l l' : List Int} (p : l.Perm l') : ∀ zs : List (Int × Int), zs.map (fun p : Int × Int => p.1) = l → ∃ zs' : List (Int × Int), zs'.Perm zs ∧ zs'.map (fun p : Int × Int => p.1) = l' := by
  induction p with
  | nil => exact fun zs h => ⟨zs, .refl _, h⟩
  | cons x _ ih =>
    intro zs h
    cases zs with
    | nil => simp at h
    | cons z zs =>
      rw [List.map_cons] at h
      obtain ⟨h1, h2⟩ := List.cons.inj h
      obtain ⟨zs', q1, q2⟩ := ih zs h2
      exact ⟨z :: zs', q1.cons z, by rw [List.map_cons, h1, q2]⟩
  | swap x y l =>
    intro zs h
    match zs, h with
    | [], h => simp at h
    | [z], h => simp at h
    | z1 :: z2 :: zs, h =>
      rw [List.map_cons, List.map_cons] at h
      obtain ⟨h1, h2⟩ := List.cons.inj h
      obtain ⟨h3, h4⟩ := List.cons.inj h2
      exact ⟨z2 :: z1 :: zs, .swap z1 z2 zs, by rw [List.map_cons, List.map_cons, h1, h3, h4]⟩
  | trans _ _ ih1 ih2 =>
    intro zs h
    obtain ⟨zs1, a1, a2⟩ := ih1 zs h
    obtain ⟨zs2, b1, b2⟩ := ih2 zs1 a2
    exact ⟨zs2, b1.trans a1, b2⟩
theorem reached {xs ys : List Int} (h : xs.length = ys.length) : ∃ ws : List Int, ws.Perm ys ∧ dot xs ws = dot (isort xs) (isort ys) := by
  have hl : (isort xs).length = (isort ys).length := by rw [(isort_perm xs).length_eq, (isort_perm ys).length_eq, h]
  obtain ⟨zs, h1, h2⟩ := perm_fst (isort_perm xs) ((isort xs).zip (isort ys)) (zip_fst hl)
  refine ⟨zs.map (fun p : Int × Int => p.2), ?_, ?_⟩
  · have := h1.map (fun p : Int × Int => p.2)
    rw [zip_snd hl] at this
    exact this.trans (isort_perm ys)
  · have : dot (zs.map (fun p : Int × Int => p.1)) (zs.map (fun p : Int × Int => p.2)) = SS zs := by rw [dot_eq, zip_unzip]
    rw [h2] at this
    rw [this, SS_perm h1, dot_eq]

/-! the least -/
theorem dot_neg : ∀ xs ws : List Int, dot xs (ws.map (- ·)) = - dot xs ws
  | [], ws => by cases ws <;> rfl
  | x :: xs, [] => rfl
  | x :: xs, w :: ws => by
    show x * (-w) + dot xs (ws.map (- ·)) = -(x * w + dot xs ws)
    rw [dot_neg xs ws, Int.mul_neg]
    omega
theorem neg_neg_map (ys : List Int) : (ys.map (- ·)).map (- ·) = ys := by
  rw [List.map_map]
  have : ((fun x : Int => -x) ∘ fun x : Int => -x) = id := by funext x; simp
  rw [this, List.map_id]
theorem isort_neg (ys : List Int) : isort (ys.map (- ·)) = (isort ys).reverse.map (- ·) := by
  refine srt_uniq ((isort_perm _).trans ?_) (isort_srt _) ?_
  · exact ((isort_perm ys).symm.trans (List.reverse_perm _).symm).map _
  · refine List.pairwise_map.mpr (List.pairwise_reverse.mpr ((isort_srt ys).imp fun h => by omega))
theorem dot_rev (xs ys : List Int) : dot (isort xs) (isort ys).reverse = - dot (isort xs) (isort (ys.map (- ·))) := by
  rw [isort_neg, dot_neg]; omega
theorem dot_ge {xs ws : List Int} (h : xs.length = ws.length) : dot (isort xs) (isort ws).reverse ≤ dot xs ws := by
  have := dot_le (xs := xs) (ws := ws.map (- ·)) (by rw [List.length_map]; exact h)
  rw [dot_neg] at this
  rw [dot_rev]
  omega
theorem reached_least {xs ys : List Int} (h : xs.length = ys.length) : ∃ ws : List Int, ws.Perm ys ∧ dot xs ws = dot (isort xs) (isort ys).reverse := by
  obtain ⟨ws, h1, h2⟩ := reached (xs := xs) (ys := ys.map (- ·)) (by rw [List.length_map]; exact h)
  refine ⟨ws.map (- ·), ?_, ?_⟩
  · have := h1.map (fun x : Int => -x)
    rwa [neg_neg_map] at this
  · rw [dot_neg, h2, dot_rev]

/-! Chebyshev -/
theorem cheb {sx sy : List Int} (h4 : sx.length ≤ 4) (hl : sy.length = sx.length) :
    ∃ rs : List (List Int), rs.length = sx.length ∧ (∀ r ∈ rs, r.Perm sy) ∧ (rs.map (dot sx)).sum = sx.sum * sy.sum := by
  match sx, sy, h4, hl with
  | [], [], _, _ => exact ⟨[], rfl, fun _ h => (nomatch h), by simp⟩
  | [a], [e], _, _ => exact ⟨[[e]], rfl, fun r h => by rw [List.mem_singleton.mp h], by simp [dot]⟩
  | [a, b], [e, f], _, _ =>
    refine ⟨[[e, f], [f, e]], rfl, fun r h => ?_, ?_⟩
    · simp only [List.mem_cons, List.not_mem_nil, or_false] at h
      rcases h with rfl | rfl
      · exact .refl _
      · exact .swap _ _ _
    · simp only [List.map_cons, List.map_nil, List.sum_cons, List.sum_nil, dot]
      grind
  | [a, b, c], [e, f, g], _, _ =>
    refine ⟨[[e, f, g], [f, g, e], [g, e, f]], rfl, fun r h => ?_, ?_⟩
    · simp only [List.mem_cons, List.not_mem_nil, or_false] at h
      rcases h with rfl | rfl | rfl
      · exact .refl _
      · exact List.perm_append_comm (l₁ := [f, g]) (l₂ := [e])
      · exact List.perm_append_comm (l₁ := [g]) (l₂ := [e, f])
    · simp only [List.map_cons, List.map_nil, List.sum_cons, List.sum_nil, dot]
      grind
  | [a, b, c, d], [e, f, g, i], _, _ =>
    refine ⟨[[e, f, g, i], [f, g, i, e], [g, i, e, f], [i, e, f, g]], rfl, fun r h => ?_, ?_⟩
    · simp only [List.mem_cons, List.not_mem_nil, or_false] at h
      rcases h with rfl | rfl | rfl | rfl
      · exact .refl _
      · exact List.perm_append_comm (l₁ := [f, g, i]) (l₂ := [e])
      · exact List.perm_append_comm (l₁ := [g, i]) (l₂ := [e, f])
      · exact List.perm_append_comm (l₁ := [i]) (l₂ := [e, f, g])
    · simp only [List.map_cons, List.map_nil, List.sum_cons, List.sum_nil, dot]
      grind
  | _ :: _ :: _ :: _ :: _ :: _, _, h, _ => simp at h
theorem sum_le_len {l : List Int} {m : Int} (h : ∀ x ∈ l, x ≤ m) : l.sum ≤ (l.length : Int) * m := by
  induction l with
  | nil => simp
  | cons x l ih =>
    have h1 := h x List.mem_cons_self
    have h2 := ih fun y hy => h y (List.mem_cons_of_mem _ hy)
    rw [List.sum_cons, List.length_cons, Int.natCast_add, Int.add_mul]
    omega
theorem len_le_sum {l : List Int} {m : Int} (h : ∀ x ∈ l, m ≤ x) : (l.length : Int) * m ≤ l.sum := by
  induction l with
  | nil => simp
  | cons x l ih =>
    have h1 := h x List.mem_cons_self
    have h2 := ih fun y hy => h y (List.mem_cons_of_mem _ hy)
    rw [List.sum_cons, List.length_cons, Int.natCast_add, Int.add_mul]
    omega

/-! an exchange -/
theorem dot_app : ∀ {a c : List Int} (b d : List Int), a.length = c.length → dot (a ++ b) (c ++ d) = dot a c + dot b d
  | [], [], b, d, _ => by simp [dot]
  | [], _ :: _, _, _, h => by simp at h
  | _ :: _, [], _, _, h => by simp at h
  | x :: a, y :: c, b, d, h => by
    show x * y + dot (a ++ b) (c ++ d) = x * y + dot a c + dot b d
    rw [dot_app b d (by simpa using h)]; omega
theorem split_two {xs : List Int} {i : Nat} (h : i + 1 < xs.length) : xs.take i ++ [xs.getD i 0, xs.getD (i + 1) 0] ++ xs.drop (i + 2) = xs := by
  have e1 : xs.getD i 0 = xs[i] := by simp [List.getD_eq_getElem?_getD, show i < xs.length by omega]
  have e2 : xs.getD (i + 1) 0 = xs[i + 1] := by simp [List.getD_eq_getElem?_getD, h]
  rw [e1, e2, List.append_assoc]
  show xs.take i ++ (xs[i] :: xs[i + 1] :: xs.drop (i + 2)) = xs
  rw [List.getElem_cons_drop, List.getElem_cons_drop, List.take_append_drop]
theorem exch_le {xs ys : List Int} (hl : ys.length = xs.length) {i : Nat} (h : i + 1 < xs.length) (hag : agP ([xs.getD i 0, xs.getD (i + 1) 0].zip [ys.getD i 0, ys.getD (i + 1) 0]) = true) : dot xs ys ≤ dot xs (swp ys i) := by
  have ex := split_two h
  have ey := split_two (xs := ys) (i := i) (by omega)
  have hlt : (xs.take i ++ [xs.getD i 0, xs.getD (i + 1) 0]).length = (ys.take i ++ [ys.getD i 0, ys.getD (i + 1) 0]).length := by simp only [List.length_append, List.length_take, List.length_cons]; omega
  have hlt2 : (xs.take i ++ [xs.getD i 0, xs.getD (i + 1) 0]).length = (ys.take i ++ [ys.getD (i + 1) 0, ys.getD i 0]).length := by simp only [List.length_append, List.length_take, List.length_cons]; omega
  have hlt3 : (xs.take i).length = (ys.take i).length := by simp only [List.length_take]; omega
  unfold swp
  generalize xs.getD i 0 = x0 at *
  generalize xs.getD (i + 1) 0 = x1 at *
  generalize ys.getD i 0 = y0 at *
  generalize ys.getD (i + 1) 0 = y1 at *
  have key : x0 * y0 + x1 * y1 ≤ x0 * y1 + x1 * y0 := by
    obtain ⟨p, hp, q, hq, hi⟩ := (ag_iff _).mp hag
    simp only [List.zip_cons_cons, List.zip_nil_left, List.mem_cons, List.not_mem_nil, or_false] at hp hq
    have hi' := cmp_inv.mp hi
    rcases hp with rfl | rfl <;> rcases hq with rfl | rfl <;> dsimp only at hi'
    · omega
    · rcases hi' with ⟨a, b⟩ | ⟨a, b⟩
      · exact swap_le (by omega) (by omega)
      · have := swap_le (a := x1) (b := x0) (c := y1) (d := y0) (by omega) (by omega); omega
    · rcases hi' with ⟨a, b⟩ | ⟨a, b⟩
      · have := swap_le (a := x1) (b := x0) (c := y1) (d := y0) (by omega) (by omega); omega
      · exact swap_le (by omega) (by omega)
    · omega
  have d1 : dot xs ys = dot (xs.take i) (ys.take i) + dot [x0, x1] [y0, y1] + dot (xs.drop (i + 2)) (ys.drop (i + 2)) := by
    have := dot_app (xs.drop (i + 2)) (ys.drop (i + 2)) hlt
    rw [ex, ey, dot_app _ _ hlt3] at this
    exact this
  have d2 : dot xs (ys.take i ++ [y1, y0] ++ ys.drop (i + 2)) = dot (xs.take i) (ys.take i) + dot [x0, x1] [y1, y0] + dot (xs.drop (i + 2)) (ys.drop (i + 2)) := by
    have := dot_app (xs.drop (i + 2)) (ys.drop (i + 2)) hlt2
    rw [ex, dot_app _ _ hlt3] at this
    exact this
  rw [d1, d2]
  simp only [dot]
  omega
theorem dot_add : ∀ {xs ys : List Int}, xs.length = ys.length → dot (xs.map fun n => n + 3) ys = dot xs ys + 3 * ys.sum
  | [], [], _ => by simp [dot]
  | [], _ :: _, h => by simp at h
  | _ :: _, [], h => by simp at h
  | x :: xs, y :: ys, h => by
    show (x + 3) * y + dot (xs.map fun n => n + 3) ys = x * y + dot xs ys + 3 * (y :: ys).sum
    rw [dot_add (by simpa using h), List.sum_cons, Int.add_mul]
    omega
theorem small_sum : ∀ {xs : List Int}, Small xs → -(9 * (xs.length : Int)) ≤ xs.sum ∧ xs.sum ≤ 9 * (xs.length : Int)
  | [], _ => by simp
  | x :: xs, h => by
    have h1 := h x List.mem_cons_self
    have h2 := small_sum (xs := xs) fun y hy => h y (List.mem_cons_of_mem _ hy)
    rw [List.sum_cons, List.length_cons]
    omega

theorem plain {xs ys : List Int} (h4 : xs.length ≤ 4) (hl : ys.length = xs.length) (sx : Small xs) (sy : Small ys) : Plain xs ys := by
  have ex := insAll_eq h4
  have ey := insAll_eq (xs := ys) (by omega)
  have px := isort_perm xs
  have py := isort_perm ys
  have hl' : xs.length = ys.length := hl.symm
  have mem : ∀ x, x ∈ (ordersN xs.length ys).map (dot xs) ↔ ∃ ws : List Int, ws.Perm ys ∧ dot xs ws = x := fun x => by
    constructor
    · intro h
      obtain ⟨ws, h1, h2⟩ := List.mem_map.mp h
      exact ⟨ws, orders_perm _ _ hl _ h1, h2⟩
    · rintro ⟨ws, h1, h2⟩
      exact List.mem_map.mpr ⟨ws, orders_all _ _ hl _ h1, h2⟩
  have sumx := sum_perm px
  have sumy := sum_perm py
  have lx : (isort xs).length = xs.length := px.length_eq
  have ly : (isort ys).length = xs.length := py.length_eq.trans hl
  obtain ⟨rs, r1, r2, r3⟩ := cheb (sx := isort xs) (sy := isort ys) (by omega) (by omega)
  have up : ∀ x ∈ rs.map (dot (isort xs)), x ≤ dot (isort xs) (isort ys) := fun x hx => by
    obtain ⟨r, hr, rfl⟩ := List.mem_map.mp hx
    have h1 := dot_isort (isort xs) r (isort_srt xs) (by rw [(r2 r hr).length_eq]; omega)
    rwa [isort_uniq ((r2 r hr).trans py)] at h1
  have lo : ∀ x ∈ rs.map (dot (isort xs)), dot (isort xs) (isort ys).reverse ≤ x := fun x hx => by
    obtain ⟨r, hr, rfl⟩ := List.mem_map.mp hx
    have h1 := dot_ge (xs := isort xs) (ws := r) (by rw [(r2 r hr).length_eq]; omega)
    rwa [isort_uniq ((r2 r hr).trans py), isort_uniq px] at h1
  have up' := sum_le_len up
  have lo' := len_le_sum lo
  rw [r3, List.length_map, r1, lx, sumx, sumy] at up' lo'
  have sx' := small_sum sx
  have sy' := small_sum sy
  constructor
  · intro ns hp hs
    rw [ex]; exact srt_uniq (px.trans hp.symm) (isort_srt _) hs
  · intro ns hp hs
    rw [ey]; exact srt_uniq (py.trans hp.symm) (isort_srt _) hs
  · rw [ex]; exact fun x hx => small_bnd sx x (px.mem_iff.mp hx)
  · rw [ey]; exact fun x hx => small_bnd sy x (py.mem_iff.mp hx)
  · exact List.length_pos_of_mem ((mem _).mpr ⟨ys, .refl _, rfl⟩)
  · intro x hx hm
    rw [ex, ey]
    obtain ⟨ws, h1, h2⟩ := (mem x).mp hx
    have h3 := dot_le (xs := xs) (ws := ws) (by rw [h1.length_eq]; exact hl')
    rw [isort_uniq h1, h2] at h3
    obtain ⟨us, h5, h6⟩ := reached hl'
    have h7 := hm _ ((mem _).mpr ⟨us, h5, rfl⟩)
    omega
  · intro x hx hm
    rw [ex, ey]
    obtain ⟨ws, h1, h2⟩ := (mem x).mp hx
    have h3 := dot_ge (xs := xs) (ws := ws) (by rw [h1.length_eq]; exact hl')
    rw [isort_uniq h1, h2] at h3
    obtain ⟨us, h5, h6⟩ := reached_least hl'
    have h7 := hm _ ((mem _).mpr ⟨us, h5, rfl⟩)
    omega
  · omega
  · omega
  · rw [ex, ey]; omega
  · rw [ex, ey]; omega
  · intro ws hw
    have hp := orders_perm _ _ hl _ hw
    exact ⟨fun x hx => small_bnd sy x (hp.mem_iff.mp hx), hp.length_eq.trans hl⟩
  · intro ws hw
    have hp := orders_perm _ _ hl _ hw
    rw [ex, ey, ← isort_uniq hp]
    exact dot_eq_iff (by rw [hp.length_eq]; exact hl')
  · intro i hi hag
    exact exch_le hl hi hag
  · intro x hx
    obtain ⟨n, hn, rfl⟩ := List.mem_map.mp hx
    have := sx n hn
    omega
  · exact dot_add hl'
end Mine
end

open PySem PySem.W PyProof.Rows
set_option Elab.async false
set_option maxRecDepth 100000 in
set_option maxHeartbeats 8000000 in
theorem PySem.Challenge.cw_gm0005_01_holds : PySem.Challenge.rw_gm0005_01.Holds := by
  exact Mine.t0 (fun _ _ h4 hl sx sy => Mine.plain h4 hl sx sy)
