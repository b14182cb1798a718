import PyProof.Rows.All
import Wide.All
import OpenK.AllK
import Wide.FinOn
import PySem.Challenge.RW_pg0113_01
set_option Elab.async false
section
open PySem PySem.W PyProof.Rows
namespace Mine
set_option maxRecDepth 100000
set_option maxHeartbeats 8000000
open_top hd for PySem.Challenge.rw_pg0113_01
end Mine
end
section
open PySem PySem.W PyProof.Rows
namespace Mine
set_option maxRecDepth 100000
set_option maxHeartbeats 8000000
abbrev prog0 : Program := PySem.Challenge.rw_pg0113_01.row.prog
/-- fills the walk's own memory -/
theorem fillK : (fun (_ : OpenLaw) (_ : Params → Frag) => True) PySem.Challenge.rw_pg0113_01 Mine.hd.heap_39 := by k_fill; w_top off; trivial

/-- all that stood stands -/
def Stays (h h' : Heap) : Prop := ∀ b o, h.get? b = some o → h'.get? b = some o

section
variable {prog : Program} {w : World} {A₀ A : Around} {s : Shared} {base h₀ : Heap} {outer : List Env} {L : Addr} {m mg mb : Str → Option Value} {env : Env} {K : Frag} {p : Program} {loose : List Str} {mean : ExcName → Option Value}
  {R : Result → Shared → Prop} {name qual : Str} {params : Arguments} {body : List Stmt} {scope : Scope} {dV kV doc pm cdv ct oc : Value} {an od : Option Addr} {osl : Array (Option Value)} {f : Addr} {args : Args} {binds : List (Str × Value)}

theorem below_here (B : Below A₀ base outer h₀) (F : Fr h₀ L s.heap m) (hA : A.frames = some (env :: outer)) (hf : env.frame = some L) (hke : env.scope.kind = .function) : Below A base (env :: outer) s.heap :=
  let b := pushX B F hf hke
  ⟨hA, b.stays, b.frames⟩

/-- a def without cells is entered; the callee's ground is the whole heap of the call -/
theorem pure_def (B : Below A₀ base outer h₀) (F : Fr h₀ L s.heap m) (X₀ : K.In h₀) (T : Top p loose mean mg mb h₀) (hA : A.frames = some (env :: outer)) (hf : env.frame = some L) (hke : env.scope.kind = .function)
    (ho : K.lookup f = some ⟨oc, od, .func (fnOf name qual params body scope dV kV doc pm an cdv ct), osl⟩) (hcd : codeIn K cdv qual = true) (hroom : A.depth < recursionLimit)
    (hbind : BindsTo s (fnOf name qual params body scope dV kV doc pm an cdv ct) args binds) (hloc : ∀ y ∈ binds, scope.names.lookup y.1 = some .local)
    (hb1 : 1 ≤ binds.length)
    (h : ∀ L' h₁ tk, 1 ≤ tk → Fr s.heap L' h₁ (fun y => binds.reverse.lookup y) → News s.heap L' h₁ [] → Below A base (env :: outer) s.heap → K.In s.heap → Top p loose mean mg mb s.heap →
      wpAny (model prog w) (A.deeper (envOf qual scope L' f cdv)) (execs body (envOf qual scope L' f cdv))
        (fun fl s' => R (.ok (.ret (match fl with | .ret v => v | _ => .none))) s')
        (fun e s' => wpAny (model prog w) (A.deeper (envOf qual scope L' f cdv)) (leaving (envOf qual scope L' f cdv) e) (fun _ s'' => R (.error e) s'') (fun e' s'' => R (.error e') s'') s')
        { s with heap := h₁, toks := tk })
    (hco : scope.isCoroutine = false) (hgen : scope.isGenerator = false) (hk : scope.kind = .function)
    (hcell : ∀ x ∈ scope.names, x.2 ≠ .cell) : codeAny (model prog w) A (.call (.ref f) args) R s := by
  have X := X₀.keeps F.keep
  have T' := T.keeps F.keep
  refine codeAny_call_def (fd := fnOf name qual params body scope dV kV doc pm an cdv ct) (body := body) (binds := binds) hroom (X _ _ ho) rfl T'.nolimit (codeRec_of X hcd) rfl hbind hcell hloc (fun h₁ hns hk₁ => ?_) hco hgen hk
  exact h s.heap.objs.size h₁ _ (Nat.le_trans hb1 (Nat.le_add_left _ _)) ⟨hns, hk₁, Nat.le_refl _⟩ News.nil (below_here B F hA hf hke) X T'

/-- the same, a def with cells -/
theorem pure_defC (B : Below A₀ base outer h₀) (F : Fr h₀ L s.heap m) (X₀ : K.In h₀) (T : Top p loose mean mg mb h₀) (hA : A.frames = some (env :: outer)) (hf : env.frame = some L) (hke : env.scope.kind = .function)
    (ho : K.lookup f = some ⟨oc, od, .func (fnOf name qual params body scope dV kV doc pm an cdv ct), osl⟩) (hcd : codeIn K cdv qual = true) (hroom : A.depth < recursionLimit)
    (hbind : BindsTo s (fnOf name qual params body scope dV kV doc pm an cdv ct) args binds) (hkind : (binds.all fun y => scope.names.lookup y.1 == some .local || scope.names.lookup y.1 == some .cell) = true)
    (hnd : ((cellsFrom 0 scope.names []).map (·.1)).Nodup)
    (h : ∀ L' h₁ tk cells, Fr s.heap L' h₁ (bindL (envOfC qual scope L' f cdv).kindOf binds fun _ => none) → News s.heap L' h₁ cells →
      CellsAre (bindC (envOfC qual scope L' f cdv).kindOf binds fun _ => none) (cellsFrom (L' + 1) scope.names []) cells → Below A base (env :: outer) s.heap → K.In s.heap → Top p loose mean mg mb s.heap →
      wpAny (model prog w) (A.deeper (envOfC qual scope L' f cdv)) (execs body (envOfC qual scope L' f cdv))
        (fun fl s' => R (.ok (.ret (match fl with | .ret v => v | _ => .none))) s')
        (fun e s' => wpAny (model prog w) (A.deeper (envOfC qual scope L' f cdv)) (leaving (envOfC qual scope L' f cdv) e) (fun _ s'' => R (.error e) s'') (fun e' s'' => R (.error e') s'') s')
        { s with heap := h₁, toks := tk })
    (hco : scope.isCoroutine = false) (hgen : scope.isGenerator = false) (hk : scope.kind = .function) : codeAny (model prog w) A (.call (.ref f) args) R s := by
  have X := X₀.keeps F.keep
  have T' := T.keeps F.keep
  refine codeAny_call_function hroom (X _ _ ho) rfl hco hgen rfl (codeRec_of X hcd) (hbind _ _ _ _ ?_)
  refine wpAny_newFunctionEnv_cells hk (kindsX hkind _) fun env' he s' x => ?_
  subst he
  refine ⟨T'.nolimit.keeps x.toInCall.keep, codeAny_func ?_⟩
  obtain ⟨h₁, tk, rfl, _⟩ := x.done
  obtain ⟨cells, NC, Y⟩ := Cl.news (h₀ := s.heap) (Nat.le_refl _) fun n c hm => ⟨x.cell n c (lookup_of_mem_nodup (cellsFrom_names scope.names 0 (s.heap.objs.size + 1) [] [] rfl ▸ hnd) hm), x.above n c hm⟩
  exact h s.heap.objs.size h₁ tk cells ⟨x.toInCall.ns, x.toInCall.keep, Nat.le_refl _⟩ NC Y (below_here B F hA hf hke) X T'
end
end Mine
end
section
open PySem PySem.W PyProof.Rows
namespace Mine
set_option maxRecDepth 100000
set_option maxHeartbeats 8000000
/-- a call that leaves all that stood; what comes back is told by Res -/
def PClaim (w : World) (f : Addr) (vs : List Value) (Pre : Heap → Prop) (Res : Heap → Value → Heap → Prop) : Prop :=
  ∀ (p : Program) (loose : List Str) (mean : ExcName → Option Value) (mg mb : Str → Option Value) (dp un : Nat) (gd : Option (List Code)) (cn : Str) (cs : Scope) (a : Addr) (ccd : Value) (cl : List (Str × Addr)) (outer : List Env)
    (A₀ : Around) (base h₀ : Heap) (L : Addr) (m : Str → Option Value) (s : Shared) (Q E : Value → Shared → Prop),
    Below A₀ base outer h₀ → Fr h₀ L s.heap m → (Mine.hd.heap_39 w.params).In h₀ → Top p loose mean mg mb h₀ → cs.kind = .function → Pre s.heap → dp + 8 < recursionLimit → un + 256 < cLine →
    (∀ v h' tk', s.toks ≤ tk' → Stays s.heap h' → Res s.heap v h' → Q v { s with heap := h', toks := tk' }) →
    wpAny (model prog0 w) (ktrTop dp un gd cn cs L a ccd cl outer) (call (.ref f) vs) Q E s
/-- the same, with more room -/
def PClaim2 (w : World) (f : Addr) (vs : List Value) (Pre : Heap → Prop) (Res : Heap → Value → Heap → Prop) : Prop :=
  ∀ (p : Program) (loose : List Str) (mean : ExcName → Option Value) (mg mb : Str → Option Value) (dp un : Nat) (gd : Option (List Code)) (cn : Str) (cs : Scope) (a : Addr) (ccd : Value) (cl : List (Str × Addr)) (outer : List Env)
    (A₀ : Around) (base h₀ : Heap) (L : Addr) (m : Str → Option Value) (s : Shared) (Q E : Value → Shared → Prop),
    Below A₀ base outer h₀ → Fr h₀ L s.heap m → (Mine.hd.heap_39 w.params).In h₀ → Top p loose mean mg mb h₀ → cs.kind = .function → Pre s.heap → dp + 40 < recursionLimit → un + 1024 < cLine →
    (∀ v h' tk', s.toks ≤ tk' → Stays s.heap h' → Res s.heap v h' → Q v { s with heap := h', toks := tk' }) →
    wpAny (model prog0 w) (ktrTop dp un gd cn cs L a ccd cl outer) (call (.ref f) vs) Q E s
abbrev IsS (X : Str) (_ : Heap) (v : Value) (_ : Heap) : Prop := ∃ t, v = .str X t
abbrev IsB (b : Bool) (_ : Heap) (v : Value) (_ : Heap) : Prop := v = .bool b
/-- a new list of these texts -/
def IsL (xs : List Str) (h : Heap) (v : Value) (h' : Heap) : Prop := ∃ l vs, v = .ref l ∧ StrsAre vs xs ∧ h.get? l = none ∧ h'.IsList l vs.toArray
abbrev NoPre (_ : Heap) : Prop := True
section
variable {prog : Program} {w : World} {A : Around} {E : Value → Shared → Prop} {s : Shared} {x y z : Str} {t u v : Tok} {Q : Value → Shared → Prop}
theorem replaceT (hx : x.length ≤ 1048576) (hz : z.length ≤ 14) (hyz : (y == z) = false) (hs : 1 ≤ s.toks) (hu : 1 ≤ u) (hv : 1 ≤ v) (huv : u ≠ v)
    (hq : ∀ t' k, 1 ≤ k → Q (.str (Txt.replace x y z) t') { s with toks := k }) :
    wpAny (model prog w) A (call (.builtin "str.replace") [.str x t, .str y u, .str z v]) Q E s :=
  wpAny_with_toks hs (SC.replaceW (Nat.ne_of_gt hu) (Nat.ne_of_gt hv) huv hyz hx hz fun t' k hk => hq t' k hk)
end
end Mine
namespace Mine
/-- the walk stops here -/
def Stop (P : Prop) : Prop := P
theorem stop_in {P : Prop} (h : Stop P) : P := h
theorem stop_out {P : Prop} (h : P) : Stop P := h
end Mine
end
section
open PySem PySem.W PyProof.Rows Builtin Builtin.Str
namespace Mine
set_option maxRecDepth 100000
theorem rep_len (x y z : Str) : (Txt.replace x y z).length ≤ x.length + (x.length + 1) * z.length := by
  unfold Txt.replace
  split
  · exact Nat.le_add_right _ _
  · have h1 := StrLaws.occ_length_le x y 0 x.length (x.length + 1)
    have hy : (Builtin.Str.glued y (Builtin.Str.partsBetween x (occurrences x y 0 x.length (x.length + 1)) y.length)).length = x.length := by rw [StrLaws.glued_between_self]
    rw [size_glued, length_partsBetween, Nat.add_sub_cancel] at hy
    rw [size_glued, length_partsBetween, Nat.add_sub_cancel]
    have h2 : (occurrences x y 0 x.length (x.length + 1)).length * z.length ≤ (x.length + 1) * z.length := Nat.mul_le_mul_right _ h1
    omega
theorem rep_le {x y z : Str} {a : Nat} (hz : z.length ≤ 6) (hx : x.length ≤ a) : (Txt.replace x y z).length ≤ 7 * a + 6 := by
  have h := rep_len x y z
  have h2 : (x.length + 1) * z.length ≤ (a + 1) * 6 := Nat.mul_le_mul (by omega) hz
  omega
end Mine
end
section
open PySem PySem.W PyProof.Rows PySem.Spec PySem.Calls
namespace Mine
set_option maxRecDepth 100000
set_option maxHeartbeats 2000000
section
variable {prog : Program} {w : World} {A : Around} {E : Value → Shared → Prop} {s : Shared} {h₀ : Heap} {L : Addr} {m : Str → Option Value} {env : Env} {elt iter : Expr} {x : Str} {px : Pos} {scope : Scope} {cl : List (Str × Addr)} {pos : Pos}
  {S : List (Addr × Obj) → Prop} {P : Nat → Value → Prop} {Fin : List Value → List (Addr × Obj) → Prop} {news : List (Addr × Obj)}

/-- a comprehension whose element gives a text: by the items, one after the other -/
theorem ct_rest {α : Type} {n : Nat} {ks : List α} (R : α → Value → Prop) (g : α → Str) (hks : ks.length = n) (hP : ∀ i v, i < n → P i v → ∃ k, ks[i]? = some k ∧ R k v)
    (turn : ∀ k v I oI C oC D m₂ ys h tk (E' : Value → Shared → Prop), k ∈ ks → R k v → LCg.NsObj oC m₂ → m₂ x = some v → Fr h₀ L h m → News h₀ L h ((I, oI) :: (C, oC) :: (D, LCg.lst ys) :: news) → LCg.Off3 I C D news → ((@Ne Nat I C) ∧ (@Ne Nat I D) ∧ (@Ne Nat C D)) →
      wpAny (model prog w) A (eval elt (compEnvC scope cl C env)) (LCg.CompEnd h₀ L m { s with heap := h, toks := tk } I oI C oC D (LCg.lst ys) S (fun y news' => KCtEl news (g k) y news')) E' { s with heap := h, toks := tk })
    (fin : ∀ ys, StrsAre ys (ks.map g) → Fin ys news) : LCg.CompRest prog w A h₀ L m env elt x scope cl s S P Fin n 0 [] news := by
  have key : ∀ (j i : Nat) (ys : List Value), i + j = n → StrsAre ys ((ks.take i).map g) → LCg.CompRest prog w A h₀ L m env elt x scope cl s S P Fin j i ys news := by
    intro j
    induction j with
    | zero =>
      intro i ys hi hy
      have e : i = ks.length := by omega
      subst e
      rw [List.take_length] at hy
      exact LCg.CompRest.zero (fin ys hy)
    | succ j ih =>
      intro i ys hi hy
      refine LCg.CompRest.succ ?_
      intro v I oI C oC D m₂ h tk E' hv hC hx F N off ne
      obtain ⟨k, hk, hR⟩ := hP i v (by omega) hv
      refine wpAny_mono (turn k v I oI C oC D m₂ ys h tk E' (List.mem_of_getElem? hk) hR hC hx F N off ne) (fun y s₂ hq => ?_) fun _ _ e => e
      obtain ⟨h', tk', nw, e, F', N', off', hS, hn, t', hy'⟩ := hq
      rw [hn] at N' off' hS
      refine ⟨h', tk', news, e, F', N', off', hS, ?_⟩
      rw [hy']
      refine ih (i + 1) _ (by omega) ?_
      rw [List.take_add_one, hk]
      simpa using kct_snoc hy
  exact key n 0 [] (by omega) (by simp only [List.take_zero, List.map_nil]; exact .nil)

/-- the source of a comprehension is a text -/
def CompSrcS (prog : Program) (w : World) (A : Around) (h₀ : Heap) (L : Addr) (m : Str → Option Value) (env : Env) (elt : Expr) (x : Str) (scope : Scope) (cl : List (Str × Addr)) (Fin : Shared → List Value → List (Addr × Obj) → Prop) (xv : Value) (s₁ : Shared) : Prop :=
  ∃ y t news, xv = .str y t ∧ A.handled = none ∧ Fr h₀ L s₁.heap m ∧ News h₀ L s₁.heap news ∧ y.length ≤ sizeLine ∧
    ∀ s₂ : Shared, (∃ h, s₂ = { s₁ with heap := h }) → LCg.CompRest prog w A h₀ L m env elt x scope cl s₂ (fun _ => True) (SignAt y) (Fin s₂) y.cps.size 0 [] news

theorem str_st {k : String} {y : Str} {t : Tok} {I : Addr} : ∀ i (h h' : Heap) (o : Obj) (nw : List (Addr × Obj)), h.IsStrIter I k y t i → h.get? I = some o → h'.get? I = some o → (∀ b o, h₀.get? b = some o → h'.get? b = some o) → News h₀ L h' nw → True → h'.IsStrIter I k y t i :=
  fun i h h' o nw st e e' _ _ _ => by obtain ⟨o', q, r⟩ := st; rw [e] at q; cases q; exact ⟨o, e', r⟩

theorem ListComp_S {Q : Value → Shared → Prop} (_F₀ : Fr h₀ L s.heap m)
    (hclos : closureFor scope env = pure cl) (hcell : ∀ y ∈ scope.names, y.2 ≠ .cell) (hkind : scope.kind = .function)
    (hnames : ∀ y ∈ scope.names, y.2 = .local → scope.names.lookup y.1 = some .local) (hx : scope.names.lookup x = some .local)
    (h : wpAny (model prog w) A (eval iter env) (CompSrcS prog w A h₀ L m env elt x scope cl (fun s₂ => LCg.FinE h₀ L m s₂ Q)) E s)
    (hs : ∀ x, foldedSetIterable iter env x = pure x := by intro _; rfl) :
    wpAny (model prog w) A (eval (.ListComp elt [⟨.Name x px, iter, [], 0⟩] scope pos) env) Q E s := by
  rw [eval_ListComp]
  refine wpAny_comprehension_free (use := none) rfl hs hclos hkind hnames (wpAny_mono h (fun xv s₁ h₁ => ?_) fun _ _ e => e)
  obtain ⟨y, t, news, rfl, hh, F, N, hsz, R⟩ := h₁
  have go : ∀ (k : String) (o : Obj) (W : Walks prog w A s₁.heap.objs.size [s₁.heap.objs.size] [s₁.heap.objs.size] y.cps.size (SignAt y) (fun i h => h.IsStrIter s₁.heap.objs.size k y t i)),
      (s₁.heap.push o).IsStrIter s₁.heap.objs.size k y t 0 → 
      wpAny (model prog w) A (newList []) (fun acc s₃ => wpAny (model prog w) A (newFunctionEnv scope env.globals cl [] env.qual none .none (some env)) (fun cenv s₄ =>
        codeAny (model prog w) A (.compStart (.ListComp elt [⟨.Name x px, iter, [], 0⟩] scope pos) 0 (.ref s₁.heap.objs.size) acc { cenv with scope := relabel scope env }) (compPost (model prog w) A E none Q acc cenv.locals) s₄) E s₃) E { s₁ with heap := s₁.heap.push o } := by
    intro k o W hst
    refine LCg.block_U W hsz (fun i h st => by obtain ⟨o, e, _⟩ := st; exact ⟨o, e⟩) str_st hcell hkind hx hst (fun b hb => ?_)
      (F.keeps fun _ _ e => Heap.get?_push_of_some _ e) (N.grown fun _ _ e => Heap.get?_push_of_some _ e) (Nat.ne_of_lt F.ns.lt) (next_is_new F) (fun p hp => Nat.ne_of_lt (Heap.lt_size (N p hp).1)) trivial (R _ ⟨_, rfl⟩) ?_
    · rw [List.mem_singleton.mp hb]
      show s₁.heap.objs.size < (s₁.heap.push _).objs.size
      rw [Heap.size_push]; exact Nat.lt_succ_self _
    · intro D C h tk m' ys news' F' N' o1 hn hC₀ hD₀ hCL hDL hCD offC fin
      refine ⟨m', hn, fun h'' hs'' => fin D h'' tk (F'.change hs'' hCL hC₀) (fun p hp => ?_) o1⟩
      refine ⟨hs''.extBut _ _ ?_ (N' p hp).1, (N' p hp).2⟩
      rcases List.mem_cons.mp hp with rfl | hp
      · exact Ne.symm hCD
      · exact offC p hp
  cases ha : y.cps.all (· < 128)
  · exact wpAny_pyIter_wide ha (go "str_iterator" _ (Walks.strWide hh _ y t) ⟨_, Heap.get?_push_size _ rfl, rfl, rfl⟩)
  · exact wpAny_pyIter_ascii ha (go "str_ascii_iterator" _ (Walks.strAscii hh _ y t) ⟨_, Heap.get?_push_size _ rfl, rfl, rfl⟩)
end
theorem ce_text {h₀ : Heap} {L I C D : Addr} {m : Str → Option Value} {s₁ : Shared} {oI oC oD : Obj} {S : List (Addr × Obj) → Prop} {r r' : Str} {t : Tok} {h' : Heap} {tk : Nat} {news all : List (Addr × Obj)}
    (F : Fr h₀ L h' m) (N : News h₀ L h' all) (sub : ∀ p ∈ (I, oI) :: (C, oC) :: (D, oD) :: news, p ∈ all) (off : LCg.Off3 I C D news) (hS : S news) (e : r = r') :
    LCg.CompEnd h₀ L m s₁ I oI C oC D oD S (fun y news' => KCtEl news r y news') (.str r' t) { s₁ with heap := h', toks := tk } :=
  LCg.CompEnd.intro F N news sub off hS ⟨rfl, t, by rw [e]⟩
end Mine
end
section
open PySem PySem.W PyProof.Rows PySem.Spec PySem.Calls
namespace Mine
set_option maxRecDepth 100000
set_option maxHeartbeats 2000000
/-- a turn's end -/
def TurnEnd (h₀ : Heap) (L : Addr) (s : Shared) (I : Addr) (oI : Obj) (Jn : (Str → Option Value) → List (Addr × Obj) → Prop) (Q : Flow → Shared → Prop) (f : Flow) (s₂ : Shared) : Prop :=
  match f with
  | .ret v => Q (.ret v) s₂
  | .brk => Q .next s₂
  | _ => ∃ h' tk m' news', s₂ = { s with heap := h', toks := tk } ∧ Fr h₀ L h' m' ∧ News h₀ L h' ((I, oI) :: news') ∧ (∀ p ∈ news', p.1 ≠ I) ∧ Jn m' news'
theorem TurnEnd.on {h₀ : Heap} {L : Addr} {s : Shared} {I : Addr} {oI : Obj} {Jn : (Str → Option Value) → List (Addr × Obj) → Prop} {Q : Flow → Shared → Prop} {h' : Heap} {tk : Nat} {m' : Str → Option Value} {news' all : List (Addr × Obj)} {f : Flow}
    (hf : f = .next ∨ f = .cont) (F : Fr h₀ L h' m') (N : News h₀ L h' all) (sub : ∀ p ∈ (I, oI) :: news', p ∈ all) (off : ∀ p ∈ news', p.1 ≠ I) (hJ : Jn m' news') : TurnEnd h₀ L s I oI Jn Q f { s with heap := h', toks := tk } := by
  rcases hf with rfl | rfl <;> exact ⟨h', tk, m', news', rfl, F, fun p hp => N p (sub p hp), off, hJ⟩
section
variable {prog : Program} {w : World} {A : Around} {E : Value → Shared → Prop} {s : Shared} {h₀ : Heap} {env : Env} {x : Str} {body : List Stmt} {Q : Flow → Shared → Prop} {m : Str → Option Value} {news : List (Addr × Obj)}
theorem loop_at {I : Addr} {fp : List Addr} {n : Nat} {P : Nat → Value → Prop} {St : Nat → Heap → Prop} (W : Walks prog w A I fp [I] n P St) (hIo : ∀ i h, St i h → ∃ o, h.get? I = some o) (hfp : ∀ b ∈ fp, b = I ∨ ∃ o, h₀.get? b = some o)
    (hLf : env.locals ∉ fp) (hI₀ : h₀.get? I = none) (hnI : ∀ p ∈ news, p.1 ≠ I) (hst : St 0 s.heap) (F : Fr h₀ env.locals s.heap m) (N : News h₀ env.locals s.heap news)
    (J : Nat → (Str → Option Value) → List (Addr × Obj) → Prop) (h0 : J 0 m news)
    (turn : ∀ i v m₁ news₁ oI h tk, i < n → P i v → J i m₁ news₁ → (∀ p ∈ news₁, p.1 ≠ I) → Fr h₀ env.locals h (fun y => if y = x then some v else m₁ y) → News h₀ env.locals h ((I, oI) :: news₁) →
      wpAny (model prog w) A (execs body env) (TurnEnd h₀ env.locals s I oI (J (i + 1)) Q) E { s with heap := h, toks := tk })
    (done : ∀ h' tk m' news', Fr h₀ env.locals h' m' → News h₀ env.locals h' news' → J n m' news' → Q .next { s with heap := h', toks := tk }) :
    LoopAtV prog w A h₀ env x body Q E (.ref I) s := by
  refine ⟨I, fp, [I], n, P, St, m, news, J, rfl, W, hLf, fun b hb => by rw [List.mem_singleton.mp hb]; exact hI₀, fun p hp hq => hnI p hp (List.mem_singleton.mp hq), hst, F, N, h0, ?_, fun h' tk m' news' F' N' _ hJ => done h' tk m' news' F' N' hJ⟩
  rintro i v m₁ news₁ s₁ own ⟨h, tk, rfl⟩ hi hP hJ hoff hown hget hall hst' F₁ N₁
  obtain ⟨oI, heI⟩ := hIo _ _ hst'
  have hmem : (I, oI) ∈ own := hall I (W.sub I (List.mem_singleton.mpr rfl)) hI₀ oI heI
  have offI : ∀ p ∈ news₁, p.1 ≠ I := fun p hp e => hoff p hp (by rw [e]; exact List.mem_singleton.mpr rfl)
  have own1 : ∀ p ∈ own, p = (I, oI) := fun p hp => by
    have h1 : p.1 = I := by
      rcases hfp p.1 (hown p hp) with e | ⟨o, e⟩
      · exact e
      · have := (N₁ p (List.mem_append_left _ hp)).2.2; rw [e] at this; cases this
    have h2 := hget p hp
    have h3 : h.get? I = some oI := heI
    have h4 : h.get? p.1 = some p.2 := h2
    rw [h1, h3] at h4
    exact Prod.ext h1 (Option.some.inj h4).symm
  have N₂ : News h₀ env.locals h ((I, oI) :: news₁) := fun p hp => by
    rcases List.mem_cons.mp hp with rfl | hp
    · exact N₁ _ (List.mem_append_left _ hmem)
    · exact N₁ _ (List.mem_append_right _ hp)
  refine wpAny_mono (turn i v m₁ news₁ oI h tk hi hP hJ offI F₁ N₂) (fun f s₃ h₃ => ?_) fun _ _ e => e
  have fin : (∃ h' tk m' news', s₃ = { s with heap := h', toks := tk } ∧ Fr h₀ env.locals h' m' ∧ News h₀ env.locals h' ((I, oI) :: news') ∧ (∀ p ∈ news', p.1 ≠ I) ∧ J (i + 1) m' news') →
      LoopStepU h₀ env.locals [I] own (J (i + 1)) { s with heap := h, toks := tk } .next s₃ := by
    rintro ⟨h', tk', m', news', rfl, F', N', off', hJ'⟩
    refine ⟨rfl, h', tk', m', news', rfl, F', fun p hp => ?_, fun p hp hq => off' p hp (List.mem_singleton.mp hq), hJ'⟩
    rcases List.mem_append.mp hp with hp | hp
    · rw [own1 p hp]; exact N' _ List.mem_cons_self
    · exact N' _ (List.mem_cons_of_mem _ hp)
  cases f with
  | ret v => exact .ret h₃
  | brk => exact .brk h₃
  | next => exact .next (fin h₃)
  | cont => exact .cont (fin h₃)

theorem for_text {xt : Str} {tx : Tok} (hh : A.handled = none) (F : Fr h₀ env.locals s.heap m) (N : News h₀ env.locals s.heap news)
    (J : Nat → (Str → Option Value) → List (Addr × Obj) → Prop) (h0 : J 0 m news)
    (turn : ∀ i c t m₁ news₁ I oI h tk, xt.cps.toList[i]? = some c → J i m₁ news₁ → (∀ p ∈ news₁, p.1 ≠ I) → Fr h₀ env.locals h (fun y => if y = x then some (.str ⟨#[c]⟩ t) else m₁ y) → News h₀ env.locals h ((I, oI) :: news₁) →
      ∀ g : Heap, wpAny (model prog w) A (execs body env) (TurnEnd h₀ env.locals { s with heap := g } I oI (J (i + 1)) Q) E { s with heap := h, toks := tk })
    (done : ∀ h' tk m' news', Fr h₀ env.locals h' m' → News h₀ env.locals h' news' → J xt.cps.size m' news' → Q .next { s with heap := h', toks := tk }) :
    wpAny (model prog w) A (pyIter (.str xt tx)) (fun it s₂ => LoopAtV prog w A h₀ env x body Q E it s₂) E s := by
  have go : ∀ (k : String) (o : Obj) (W : Walks prog w A s.heap.objs.size [s.heap.objs.size] [s.heap.objs.size] xt.cps.size (SignAt xt) (fun i h => h.IsStrIter s.heap.objs.size k xt tx i)),
      (s.heap.push o).IsStrIter s.heap.objs.size k xt tx 0 → LoopAtV prog w A h₀ env x body Q E (.ref s.heap.objs.size) { s with heap := s.heap.push o } := by
    intro k o W hst
    refine loop_at W (fun i h st => by obtain ⟨o, e, _⟩ := st; exact ⟨o, e⟩) (fun b hb => .inl (List.mem_singleton.mp hb)) (fun hm => absurd F.ns.lt ((List.mem_singleton.mp hm) ▸ Nat.lt_irrefl _)) (next_is_new F)
      (fun p hp => Nat.ne_of_lt (Heap.lt_size (N p hp).1)) hst (F.push _) (N.grown fun _ _ e => Heap.get?_push_of_some _ e) J h0 ?_ done
    rintro i v m₁ news₁ oI h tk hi ⟨c, t, hc, rfl⟩ hJ off F₁ N₁
    exact turn i c t m₁ news₁ _ oI h tk (by simpa using hc) hJ off F₁ N₁ _
  cases ha : xt.cps.all (· < 128)
  · exact wpAny_pyIter_wide ha (go "str_iterator" _ (Walks.strWide hh _ xt tx) ⟨_, Heap.get?_push_size _ rfl, rfl, rfl⟩)
  · exact wpAny_pyIter_ascii ha (go "str_ascii_iterator" _ (Walks.strAscii hh _ xt tx) ⟨_, Heap.get?_push_size _ rfl, rfl, rfl⟩)

theorem for_list {l : Addr} {vs : List Value} {ys : List Str} (hh : A.handled = none) (hl : h₀.IsList l vs.toArray) (hi : StrsAre vs ys) (F : Fr h₀ env.locals s.heap m) (N : News h₀ env.locals s.heap news)
    (J : Nat → (Str → Option Value) → List (Addr × Obj) → Prop) (h0 : J 0 m news)
    (turn : ∀ i y t m₁ news₁ I oI h tk, ys[i]? = some y → J i m₁ news₁ → (∀ p ∈ news₁, p.1 ≠ I) → Fr h₀ env.locals h (fun z => if z = x then some (.str y t) else m₁ z) → News h₀ env.locals h ((I, oI) :: news₁) →
      ∀ g : Heap, wpAny (model prog w) A (execs body env) (TurnEnd h₀ env.locals { s with heap := g } I oI (J (i + 1)) Q) E { s with heap := h, toks := tk })
    (done : ∀ h' tk m' news', Fr h₀ env.locals h' m' → News h₀ env.locals h' news' → J ys.length m' news' → Q .next { s with heap := h', toks := tk }) :
    wpAny (model prog w) A (pyIter (.ref l)) (fun it s₂ => LoopAtV prog w A h₀ env x body Q E it s₂) E s := by
  obtain ⟨ol, hol, hol'⟩ := id hl
  have hl' : s.heap.IsList l vs.toArray := ⟨ol, F.keep _ _ hol, hol'⟩
  have hlt : l < s.heap.objs.size := Heap.lt_size (F.keep _ _ hol)
  have hlen : vs.toArray.size = ys.length := by rw [List.size_toArray]; exact hi.len_eq
  refine wpAny_pyIter_list hl' ?_
  have W := Walks.list (prog := prog) (w := w) hh s.heap.objs.size l (Nat.ne_of_lt hlt) vs.toArray
  rw [hlen] at W
  refine loop_at W (fun i h st => by obtain ⟨o, e, _⟩ := st.1; exact ⟨o, e⟩) (fun b hb => ?_) (fun hm => ?_) (next_is_new F)
    (fun p hp => Nat.ne_of_lt (Heap.lt_size (N p hp).1)) ⟨⟨_, Heap.get?_push_size _ rfl, rfl, rfl⟩, hl'.push _⟩ (F.push _) (N.grown fun _ _ e => Heap.get?_push_of_some _ e) J h0 ?_ done
  · rcases List.mem_cons.mp hb with rfl | hb
    · exact .inl rfl
    · exact .inr ⟨ol, by rw [List.mem_singleton.mp hb]; exact hol⟩
  · rcases List.mem_cons.mp hm with e | hm
    · exact absurd F.ns.lt (e ▸ Nat.lt_irrefl _)
    · have h1 := F.above
      have h2 := Heap.lt_size hol
      rw [← List.mem_singleton.mp hm] at h2
      exact absurd (Nat.lt_of_lt_of_le h2 h1) (Nat.lt_irrefl _)
  · intro i v m₁ news₁ oI h tk hin hP hJ off F₁ N₁
    obtain ⟨y, t, rfl, hy⟩ := hi.item i v (by simpa using hP)
    exact turn i y t m₁ news₁ _ oI h tk hy hJ off F₁ N₁ _

theorem for_range {r : Addr} {a b : Int} {t u v : Tok} {n : Nat} (hh : A.handled = none) (hr : IsRange s.heap r a b 1 t u v) (hsm : Builtin.Range.small a b 1 = true) (hn : Builtin.Range.rangeSize a b 1 = ((n : Nat) : Int)) (F : Fr h₀ env.locals s.heap m) (N : News h₀ env.locals s.heap news)
    (J : Nat → (Str → Option Value) → List (Addr × Obj) → Prop) (h0 : J 0 m news)
    (turn : ∀ (i : Nat) t m₁ news₁ I oI h tk, i < n → J i m₁ news₁ → (∀ p ∈ news₁, p.1 ≠ I) → Fr h₀ env.locals h (fun z => if z = x then some (.int (a + (i : Int)) t) else m₁ z) → News h₀ env.locals h ((I, oI) :: news₁) →
      ∀ g : Heap, wpAny (model prog w) A (execs body env) (TurnEnd h₀ env.locals { s with heap := g } I oI (J (i + 1)) Q) E { s with heap := h, toks := tk })
    (done : ∀ h' tk m' news', Fr h₀ env.locals h' m' → News h₀ env.locals h' news' → J n m' news' → Q .next { s with heap := h', toks := tk }) :
    wpAny (model prog w) A (pyIter (.ref r)) (fun it s₂ => LoopAtV prog w A h₀ env x body Q E it s₂) E s := by
  refine wpAny_pyIter_range hr hsm ?_
  refine loop_at (LCg.range_walks hh a n) (fun i h st => ⟨_, st⟩) (fun b hb => .inl (List.mem_singleton.mp hb)) (fun hm => absurd F.ns.lt ((List.mem_singleton.mp hm) ▸ Nat.lt_irrefl _)) (next_is_new F)
    (fun p hp => Nat.ne_of_lt (Heap.lt_size (N p hp).1)) (by show IsRangeIter _ _ _ _ _; rw [hn]; simpa using Heap.get?_push_size _ rfl) (F.push _) (N.grown fun _ _ e => Heap.get?_push_of_some _ e) J h0 ?_ done
  rintro i v m₁ news₁ oI h tk hi ⟨t, rfl⟩ hJ off F₁ N₁
  exact turn i t m₁ news₁ _ oI h tk hi hJ off F₁ N₁ _
end
end Mine
end
section
open PySem PySem.W PyProof.Rows
namespace Mine
set_option maxRecDepth 100000
set_option maxHeartbeats 2000000
section
variable {w : World} {f : Addr} {vs : List Value} {p : Program} {loose : List Str} {mean : ExcName → Option Value} {mg mb : Str → Option Value} {dp un : Nat} {gd : Option (List Code)} {cn : Str} {cs : Scope} {a : Addr} {ccd : Value} {cl : List (Str × Addr)} {outer : List Env}
    {A₀ : Around} {base h₀ : Heap} {L : Addr} {m : Str → Option Value} {s : Shared} {Q E : Value → Shared → Prop} {news : List (Addr × Obj)}
theorem use_S {X : Str} (C : PClaim w f vs NoPre (IsS X)) (B : Below A₀ base outer h₀) (F : Fr h₀ L s.heap m) (N : News h₀ L s.heap news) (K : (Mine.hd.heap_39 w.params).In h₀) (T : Top p loose mean mg mb h₀) (hk : cs.kind = .function) (hd : dp + 8 < recursionLimit) (hu : un + 256 < cLine)
    (h : ∀ t h' tk', s.toks ≤ tk' → Fr h₀ L h' m → News h₀ L h' news → Q (.str X t) { s with heap := h', toks := tk' }) : wpAny (model prog0 w) (ktrTop dp un gd cn cs L a ccd cl outer) (call (.ref f) vs) Q E s :=
  C p loose mean mg mb dp un gd cn cs a ccd cl outer A₀ base h₀ L m s Q E B F K T hk True.intro hd hu fun v h' tk' htk hst hres => by
    obtain ⟨t, rfl⟩ := hres
    exact h t h' tk' htk (F.keeps hst) (N.grown hst)
theorem use_B {X : Bool} (C : PClaim w f vs NoPre (IsB X)) (B : Below A₀ base outer h₀) (F : Fr h₀ L s.heap m) (N : News h₀ L s.heap news) (K : (Mine.hd.heap_39 w.params).In h₀) (T : Top p loose mean mg mb h₀) (hk : cs.kind = .function) (hd : dp + 8 < recursionLimit) (hu : un + 256 < cLine)
    (h : ∀ h' tk', s.toks ≤ tk' → Fr h₀ L h' m → News h₀ L h' news → Q (.bool X) { s with heap := h', toks := tk' }) : wpAny (model prog0 w) (ktrTop dp un gd cn cs L a ccd cl outer) (call (.ref f) vs) Q E s :=
  C p loose mean mg mb dp un gd cn cs a ccd cl outer A₀ base h₀ L m s Q E B F K T hk True.intro hd hu fun v h' tk' htk hst hres => by
    obtain rfl := hres
    exact h h' tk' htk (F.keeps hst) (N.grown hst)
end
theorem item_at {prog : Program} {w : World} {A : Around} {E : Value → Shared → Prop} {s : Shared} {value slice : PySem.Expr} {l : Addr} {vs : List Value} {ys : List Str} {k : Int} {i : Nat} {u : Tok} {y : Str} {Q : Value → Shared → Prop}
    (hl : s.heap.IsList l vs.toArray) (hi : StrsAre vs ys) (hk : k = (i : Int)) (hb : k < 2 ^ 63) (hy : ys[i]? = some y) (h : ∀ t, Q (.str y t) s)
    (hs : subscripted slice false (.ref l) (.int k u) = operate [.ref l, .int k u] (getItem (.ref l) (.int k u)) := by with_unfolding_all rfl) :
    wpAny (model prog w) A (subscriptTail value slice (.ref l) (.int k u)) Q E s := by
  obtain ⟨t, ht⟩ := hi.at hy
  refine tail_any hl.typeIs slot_list_getitem.lookup (wpAny_getItem_list hl (by omega) hb ?_ (h t)) hs
  subst hk
  simpa using ht
end Mine
namespace Mine
theorem room_in {dp : Nat} (h : dp + 40 < recursionLimit) : dp + 1 + 8 < recursionLimit := by omega
theorem units_in {un : Nat} (h : un + 1024 < cLine) : un + 3 + 256 < cLine := by omega
section
variable {prog : Program} {w : World} {A : Around} {E : Value → Shared → Prop} {s : Shared} {x y : Str} {t u : Tok} {Q : Value → Shared → Prop}
theorem add_T (hs : 1 ≤ s.toks) (hsz : x.length + y.length ≤ 16777216) (h : ∀ t' k, 1 ≤ k → (x ++ y).length = x.length + y.length → Q (.str (x ++ y) t') { s with toks := k }) :
    wpAny (model prog w) A (binaryOp .Add (.str x t) (.str y u)) Q E s :=
  wpAny_with_toks hs (PyProof.Rows.add_str (fun t' k hk => h t' k hk (Str.length_append x y)) (by rw [PySem.sizeLine_eq]; exact hsz))
end
end Mine
end
section
open PySem PySem.W PyProof.Rows PySem.Spec PySem.Calls
namespace Mine
set_option maxRecDepth 100000
set_option maxHeartbeats 2000000
section
variable {prog : Program} {w : World} {A : Around} {E : Value → Shared → Prop} {s : Shared} {env : Env} {elt iter : Expr} {x : Str} {px : Pos} {scope : Scope} {cl : List (Str × Addr)} {pos : Pos} {Q : Value → Shared → Prop}
/-- what stands behind the source of a comprehension over a list of texts -/
def SrcT (prog : Program) (w : World) (A : Around) (env : Env) (elt : Expr) (x : Str) (scope : Scope) (cl : List (Str × Addr)) (g : Str → Str) (Q : Value → Shared → Prop) (xv : Value) (s₁ : Shared) : Prop :=
  ∃ ax vs ys, xv = .ref ax ∧ A.handled = none ∧ s₁.heap.IsList ax vs.toArray ∧ StrsAre vs ys ∧ ys.length ≤ 16777216 ∧ 1 ≤ s₁.toks ∧
    (∀ C y t s₃ m₃ (E' : Value → Shared → Prop), y ∈ ys → s₃.heap.Ns C m₃ → m₃ x = some (.str y t) → 1 ≤ s₃.toks → wpAny (model prog w) A (eval elt (compEnvC scope cl C env)) (fun v s₄ => (∃ t', v = .str (g y) t') ∧ Keeps s₃ s₄) E' s₃) ∧
    (∀ D zs h' tk, s₁.heap.get? D = none → h'.IsList D zs.toArray → StrsAre zs (ys.map g) → Stays s₁.heap h' → Q (.ref D) { s₁ with heap := h', toks := tk })
theorem strs_of_paired {g : Str → Str} : ∀ {vs zs : List Value} {ys : List Str}, StrsAre vs ys → Paired (fun v r => ∀ y t, v = .str y t → ∃ t', r = .str (g y) t') vs zs → StrsAre zs (ys.map g)
  | _, _, _, .nil, h => by cases h; exact .nil
  | _, _, _, .cons y t r, h => by
    cases h with
    | cons h1 h2 =>
      obtain ⟨t', rfl⟩ := h1 y t rfl
      exact .cons (g y) t' (strs_of_paired r h2)
theorem ListComp_T {g : Str → Str}
    (hclos : closureFor scope env = pure cl) (hcell : ∀ y ∈ scope.names, y.2 ≠ .cell) (hkind : scope.kind = .function)
    (hnames : ∀ y ∈ scope.names, y.2 = .local → scope.names.lookup y.1 = some .local) (hx : scope.names.lookup x = some .local)
    (h : wpAny (model prog w) A (eval iter env) (SrcT prog w A env elt x scope cl g Q) E s)
    (hs : ∀ x, foldedSetIterable iter env x = pure x := by intro _; rfl) :
    wpAny (model prog w) A (eval (.ListComp elt [⟨.Name x px, iter, [], 0⟩] scope pos) env) Q E s := by
  refine wpAny_ListComp_free (fun _ => true) (fun v r => ∀ y t, v = .str y t → ∃ t', r = .str (g y) t') hclos hcell hkind hnames hx (wpAny_mono h (fun xv s₁ h₁ => ?_) fun _ _ e => e) hs
  obtain ⟨ax, vs, ys, rfl, hh, hl, hv, hn, htk, helt, hQ⟩ := h₁
  have hlt : ax < s₁.heap.objs.size := by obtain ⟨_, e, _⟩ := hl; exact Heap.lt_size e
  have hlen := hv.len_eq
  refine wpAny_with_toks htk (wpAny_pyIter_list hl ?_)
  intro htk2
  refine ⟨s₁.heap.objs.size, _, _, vs.toArray.size, _, _, rfl, Walks.list hh s₁.heap.objs.size ax (Nat.ne_of_lt hlt) vs.toArray, (by rw [List.size_toArray, PySem.sizeLine_eq]; omega), ⟨⟨_, Heap.get?_push_size _ rfl, rfl, rfl⟩, hl.push _⟩, ?_, ⟨?_, ?_⟩, ?_⟩
  · intro b hb
    show b < (s₁.heap.push _).objs.size
    rw [Heap.size_push]
    rcases List.mem_cons.mp hb with rfl | hb
    · exact Nat.lt_succ_self _
    · rw [List.mem_singleton.mp hb]; exact Nat.lt_succ_of_lt hlt
  · intro C i v s₃ m₃ E' _ _ _ _ _ _
    exact wpAny_pure ⟨rfl, s₃.heap, s₃.toks, rfl, fun _ _ e => e⟩
  · intro C i v s₃ m₃ E' _ hP _ hns hm _ htk3
    obtain ⟨y, t, rfl, hy⟩ := hv.item i v (by simpa using hP)
    refine wpAny_mono (helt C y t s₃ m₃ E' (List.mem_of_getElem? hy) hns hm (Nat.le_trans htk2 htk3)) (fun r s₄ h₄ => ⟨?_, h₄.2⟩) fun _ _ e => e
    obtain ⟨t', rfl⟩ := h₄.1
    intro y' t'' e
    cases e
    exact ⟨t', rfl⟩
  · intro D h' tk zs us hD hlD _ hul hup hF hk
    have hus : us = vs := by
      refine List.ext_getElem? fun j => ?_
      cases hj : us[j]? with
      | some v => have := hup j v hj; rw [← this]; simp
      | none =>
        have h1 := List.getElem?_eq_none_iff.mp hj
        rw [hul, List.size_toArray] at h1
        exact (List.getElem?_eq_none h1).symm
    subst hus
    rw [List.filter_eq_self.mpr (fun _ _ => rfl)] at hF
    have hz := strs_of_paired hv hF
    have hst : Stays s₁.heap h' := fun b o e => hk b o (fun hb => by rw [List.mem_singleton.mp hb] at e; exact absurd (Heap.lt_size e) (Nat.lt_irrefl _)) (Heap.get?_push_of_some _ e)
    have hD1 : s₁.heap.get? D = none := by
      cases e : s₁.heap.get? D with
      | none => rfl
      | some o => rw [Heap.get?_push_of_some _ e] at hD; cases hD
    exact hQ D zs.toList h' tk hD1 (by simpa using hlD) hz hst
end
end Mine
end
section
open PySem PySem.W PyProof.Rows
namespace Mine
set_option maxRecDepth 100000
set_option maxHeartbeats 8000000
theorem fillC1 : (fun (_ : OpenLaw) (_ : Params → Frag) => True) PySem.Challenge.rw_pg0113_01 Mine.hd.heap_39 := by k_fill; w_top off; trivial
local macro_rules | `(tactic| walk_at "mine enter") => `(tactic| (k_dflt (refine' pure_def ?k1 ?k2 ?k3 ?k5 ?kA ?kF ?kK ?k6 ?k7 ?k8 ?k9 ?kB ?kb ?_ ?c2 ?c3 ?c4 ?c5; (case kA => exact rfl); (case kF => exact rfl); (case kK => assumption); (case k1 => k_asm); (case k2 => k_asm); (case k3 => k_asm); (case k5 => k_asm); (case k6 => k_is); (case k7 => k_is); (case k8 => ktr_room); (case k9 => exact BindsTo.of_eq rfl); (case c5 => decide); (case kB => exact locs rfl); (case kb => exact Nat.le_of_ble_eq_true rfl); (case c2 => exact rfl); (case c3 => exact rfl); (case c4 => exact rfl); k_whole)))
def oddOf (x : Str) : Bool := ((x.length : Int) - (Txt.rstripChars x "\\").length).fmod 2 == 1
theorem odd_c (w : World) (x : Str) (t : Tok) (hx : x.length ≤ 100000) : PClaim w 78 [.str x t] NoPre (IsB (oddOf x)) := by
  intro p loose mean mg mb dp un gd cn cs a ccd cl outer A₀ base h₀ L m s Q E B F X T hk _ hd hu hret
  refine wpAny_with_toks (Nat.le_refl _) (wpAny_call ?_)
  walk_at "mine enter"
  intro L' h' tk htk0 F' N' B' X' T'
  (try dsimp only); (try k_fold)
  k_steps
  all_goals (exact hret _ _ _ (by assumption) (Fr.keep (by assumption)) rfl)

local macro_rules | `(tactic| walk_at "call builtin:str.replace") => `(tactic| ((with_reducible show wpAny _ _ (call (Value.builtin "str.replace") [Value.str _ _, Value.str _ _, Value.str _ _]) _ _ _); refine replaceT ?hx ?hz ?hyz ?hs ?hu ?hv ?huv ?_; (case hx => first | omega | exact Nat.le_trans (rep_le (by decide) (by assumption)) (by decide) | exact Nat.le_trans (rep_le (by decide) (rep_le (by decide) (by assumption))) (by decide)); (case hz => decide); (case hyz => decide); (case hs => (show (1 : Nat) ≤ _); (try dsimp only); omega); (case hu => (show (1 : Nat) ≤ _); omega); (case hv => (show (1 : Nat) ≤ _); omega); (case huv => (show @Ne Nat _ _); omega); intro t' k' hk'))
def undOf (x : Str) : Str := Txt.replace (Txt.replace (Txt.replace x "\\\\" "\x01") "\\" "") "\x01" "\\"
theorem und_c (w : World) (x : Str) (t : Tok) (hx : x.length ≤ 1000) : PClaim w 71 [.str x t] NoPre (IsS (undOf x)) := by
  intro p loose mean mg mb dp un gd cn cs a ccd cl outer A₀ base h₀ L m s Q E B F X T hk _ hd hu hret
  refine wpAny_with_toks (Nat.le_refl _) (wpAny_call ?_)
  walk_at "mine enter"
  intro L' h' tk htk0 F' N' B' X' T'
  (try dsimp only); (try k_fold)
  k_steps
  all_goals (exact hret _ _ _ (by assumption) (Fr.keep (by assumption)) ⟨_, rfl⟩)
end Mine
end
section
open PySem PySem.W PyProof.Rows
namespace Mine
set_option maxRecDepth 100000
set_option maxHeartbeats 8000000
theorem fillE2 : (fun (_ : OpenLaw) (_ : Params → Frag) => True) PySem.Challenge.rw_pg0113_01 Mine.hd.heap_39 := by k_fill; w_top off; trivial
theorem Str_ext {a b : Str} (h : a.cps.toList = b.cps.toList) : a = b := by
  obtain ⟨⟨a⟩⟩ := a; obtain ⟨⟨b⟩⟩ := b; cases h; rfl
theorem toks_any {α : Type} {M : Model} {A : Around} {t : Sem α} {Q : α → Shared → Prop} {E : Value → Shared → Prop} {h : Heap} {g : Array GenState} {d : Drawn} {n : Nat} {o : OsState} (hn : 1 ≤ n) (k : ∀ tk, 1 ≤ tk → wpAny M A t Q E ⟨h, g, d, tk, o⟩) : wpAny M A t Q E ⟨h, g, d, n, o⟩ := k n hn

theorem rep_b {x y z : Str} {a k : Nat} (hx : x.length ≤ a) (hz : z.length ≤ k) : (Txt.replace x y z).length ≤ a + (a + 1) * k := by
  have h := rep_len x y z
  have h2 : (x.length + 1) * z.length ≤ (a + 1) * k := Nat.mul_le_mul (by omega) hz
  omega
theorem contains_off {x c : Str} (h : (Builtin.Str.occurrences x c 0 x.length 1).isEmpty = true) : (Builtin.Str.occurrences x c 0 x.length (x.length + 1)).isEmpty = true := by
  cases hc : (Builtin.Str.occurrences x c 0 x.length (x.length + 1)) with
  | nil => rfl
  | cons i r =>
    have := StrLaws.occ_spec x c 0 x.length (x.length + 1) i (by rw [hc]; exact List.mem_cons_self)
    have h2 := (StrLaws.found_iff x c).mpr ⟨i, this⟩
    rw [h] at h2; cases h2
theorem rep_absent {x c z : Str} (h : (Builtin.Str.occurrences x c 0 x.length 1).isEmpty = true) : Txt.replace x c z = x := by
  unfold Txt.replace
  rw [if_pos]
  rw [contains_off h]; rfl
local macro_rules | `(tactic| walk_at "eval Name") => `(tactic| (refine ld (by assumption) (by assumption) ?_ (by assumption) (by assumption)))
local macro_rules | `(tactic| walk_at "eval Call Attribute") => `(tactic| (refine MethodCall_ ?_ (by assumption)))
local macro_rules | `(tactic| walk_at "storeName") => `(tactic| (refine stN (by assumption) (by assumption) ?_ (by assumption) (by assumption); intro h' F' N'))
local macro_rules | `(tactic| walk_at "execs cons") => `(tactic| (refine toks_any ?htp ?_; (case htp => (fail_if_success assumption); omega); intro tk htk))
local macro_rules | `(tactic| walk_at "execs nil") => `(tactic| (refine toks_any ?htp ?_; (case htp => (fail_if_success assumption); omega); intro tk htk))
local macro_rules | `(tactic| walk_at "call builtin:str.replace") => `(tactic| ((with_reducible show wpAny _ _ (call (Value.builtin "str.replace") [Value.str _ _, Value.str _ _, Value.str _ _]) _ _ _); refine replaceT ?hx ?hz ?hyz ?hs ?hu ?hv ?huv ?_; (case hx => omega); (case hz => omega); (case hyz => assumption); (case hs => (show (1 : Nat) ≤ _); (try dsimp only); omega); (case hu => (show (1 : Nat) ≤ _); omega); (case hv => (show (1 : Nat) ≤ _); omega); (case huv => (show @Ne Nat _ _); omega); intro t' k' hk'))
theorem esc_step {w : World} {A : Around} {E : Value → Shared → Prop} {hh : Heap} {gg : Array GenState} {dd : Drawn} {tt : Nat} {oo : OsState} {h₀ : Heap} {L a : Addr} {m : Str → Option Value} {qual : Str} {scope : Scope} {cd : Value} {Q : Flow → Shared → Prop} {c z x : Str} {t : Tok} {p1 p2 p3 p4 p5 p6 p7 p8 p9 p10 p11 : Pos} {pl : Sem Bool}
    (X : (Mine.hd.heap_39 w.params).In h₀) (F : Fr h₀ L hh m) (N : News h₀ L hh [])
    (hk : scope.kind = .function) (hl : (envOf qual scope L a cd).kindOf "text" = some .local) (hm : m "text" = some (.str x t)) (hs : 1 ≤ tt)
    {b0 k : Nat} (hx : x.length ≤ b0) (hb0 : b0 ≤ 1048576) (hz : z.length ≤ k) (hk6 : k ≤ 6) (hcz : (c == z) = false)
    (he : eval (.Call (.Attribute (.Name "text" p5) "replace" p6) [.Constant (.str c) 0 p7, .Constant (.str z) 0 p8] [] p9) (envOf qual scope L a cd) = (do
      let ov ← eval (.Name "text" p5) (envOf qual scope L a cd)
      standAt p6.atName
      let (f, first) ← holding [ov] (getMethod ov "replace" pl)
      callWith p9 f first (backTo p9 (starEach [.Constant (.str c) 0 p7, .Constant (.str z) 0 p8] (envOf qual scope L a cd))) []))
    (h : ∀ (h' : Heap) (t' : Tok) (tk : Nat) (m' : Str → Option Value), 1 ≤ tk → (Txt.replace x c z).length ≤ b0 + (b0 + 1) * k → m' = (fun y : Str => if y = (Str.ofString "text") then some (.str (Txt.replace x c z) t') else m y) → Fr h₀ L h' m' → News h₀ L h' [] → Q .next ⟨h', gg, dd, tk, oo⟩) :
    wpAny (model prog0 w) A (exec (.If (.Compare (.Constant (.str c) 0 p1) [.In] [.Name "text" p2] p3) [.Assign [.Name "text" p4] (.Call (.Attribute (.Name "text" p5) "replace" p6) [.Constant (.str c) 0 p7, .Constant (.str z) 0 p8] [] p9) p10] [] p11) (envOf qual scope L a cd)) Q E ⟨hh, gg, dd, tt, oo⟩ := by
  k_steps
  · refine h hh t _ m (by assumption) (rep_b hx hz) (funext fun y => ?_) F N
    rw [rep_absent (by assumption)]
    split
    · rename_i e; rw [e]; exact hm
    · rfl
  · exact h _ _ _ _ (by assumption) (rep_b hx hz) rfl (by assumption) (by assumption)
end Mine
end
section
open PySem PySem.W PyProof.Rows
namespace Mine
set_option maxRecDepth 100000
set_option maxHeartbeats 8000000
theorem fillE3 : (fun (_ : OpenLaw) (_ : Params → Frag) => True) PySem.Challenge.rw_pg0113_01 Mine.hd.heap_39 := by k_fill; w_top off; trivial
local macro_rules | `(tactic| walk_at "mine enter") => `(tactic| (k_dflt (refine' pure_def ?k1 ?k2 ?k3 ?k5 ?kA ?kF ?kK ?k6 ?k7 ?k8 ?k9 ?kB ?kb ?_ ?c2 ?c3 ?c4 ?c5; (case kA => exact rfl); (case kF => exact rfl); (case kK => assumption); (case k1 => k_asm); (case k2 => k_asm); (case k3 => k_asm); (case k5 => k_asm); (case k6 => k_is); (case k7 => k_is); (case k8 => ktr_room); (case k9 => exact BindsTo.of_eq rfl); (case c5 => decide); (case kB => exact locs rfl); (case kb => exact Nat.le_of_ble_eq_true rfl); (case c2 => exact rfl); (case c3 => exact rfl); (case c4 => exact rfl); k_whole)))
local macro_rules | `(tactic| walk_at "exec If") => `(tactic| (k_here; k_dflt (first
  | (refine' esc_step (k := 4) ?e1 ?e2 ?e3 ?e4 ?e5 ?e6 ?e7 ?e8 ?e9 ?e10 ?e11 ?e12 ?e13 ?_; (case e1 => k_asm); (case e2 => k_asm); (case e3 => k_asm); (case e4 => rfl); (case e5 => rfl); (case e6 => rfl); (case e7 => assumption); (case e8 => assumption); (case e9 => decide); (case e10 => decide); (case e11 => decide); (case e12 => decide); (case e13 => rfl); k_whole; intro h' t' tk m' htk' hlen' hm' F' N'; subst hm'; (try k_sweep))
  | (refine' esc_step (k := 5) ?e1 ?e2 ?e3 ?e4 ?e5 ?e6 ?e7 ?e8 ?e9 ?e10 ?e11 ?e12 ?e13 ?_; (case e1 => k_asm); (case e2 => k_asm); (case e3 => k_asm); (case e4 => rfl); (case e5 => rfl); (case e6 => rfl); (case e7 => assumption); (case e8 => assumption); (case e9 => decide); (case e10 => decide); (case e11 => decide); (case e12 => decide); (case e13 => rfl); k_whole; intro h' t' tk m' htk' hlen' hm' F' N'; subst hm'; (try k_sweep))
  | (refine' esc_step (k := 6) ?e1 ?e2 ?e3 ?e4 ?e5 ?e6 ?e7 ?e8 ?e9 ?e10 ?e11 ?e12 ?e13 ?_; (case e1 => k_asm); (case e2 => k_asm); (case e3 => k_asm); (case e4 => rfl); (case e5 => rfl); (case e6 => rfl); (case e7 => assumption); (case e8 => assumption); (case e9 => decide); (case e10 => decide); (case e11 => decide); (case e12 => decide); (case e13 => rfl); k_whole; intro h' t' tk m' htk' hlen' hm' F' N'; subst hm'; (try k_sweep)))))
def htmOf (x : Str) : Str := (Txt.replace (Txt.replace (Txt.replace x "&" "&amp;") ">" "&gt;") "\"" "&quot;")
theorem htm_c (w : World) (x : Str) (t : Tok) (hx : x.length ≤ 20) : PClaim w 47 [.str x t] NoPre (IsS (htmOf x)) := by
  intro p loose mean mg mb dp un gd cn cs a ccd cl outer A₀ base h₀ L m s Q E B F X T hk _ hd hu hret
  refine wpAny_with_toks (Nat.le_refl _) (wpAny_call ?_)
  walk_at "mine enter"
  intro L' h' tk htk0 F' N' B' X' T'
  (try dsimp only); (try k_fold)
  k_steps
  all_goals (exact hret _ _ _ (by assumption) (Fr.keep (by assumption)) ⟨_, rfl⟩)
def c14Of (x : Str) : Str := (Txt.replace (Txt.replace (Txt.replace (Txt.replace (Txt.replace (Txt.replace x "&" "&amp;") "<" "&lt;") "\"" "&quot;") "\t" "&#x9;") "\n" "&#xA;") "\r" "&#xD;")
theorem c14_c (w : World) (x : Str) (t : Tok) (hx : x.length ≤ 20) : PClaim w 54 [.str x t] NoPre (IsS (c14Of x)) := by
  intro p loose mean mg mb dp un gd cn cs a ccd cl outer A₀ base h₀ L m s Q E B F X T hk _ hd hu hret
  refine wpAny_with_toks (Nat.le_refl _) (wpAny_call ?_)
  walk_at "mine enter"
  intro L' h' tk htk0 F' N' B' X' T'
  (try dsimp only); (try k_fold)
  k_steps
  all_goals (exact hret _ _ _ (by assumption) (Fr.keep (by assumption)) ⟨_, rfl⟩)
def escOf (x : Str) : Str := (Txt.replace (Txt.replace (Txt.replace (Txt.replace (Txt.replace (Txt.replace (Txt.replace x "&" "&amp;") "<" "&lt;") ">" "&gt;") "\"" "&quot;") "\r" "&#13;") "\n" "&#10;") "\t" "&#09;")
theorem esc_c (w : World) (x : Str) (t : Tok) (hx : x.length ≤ 20) : PClaim w 40 [.str x t] NoPre (IsS (escOf x)) := by
  intro p loose mean mg mb dp un gd cn cs a ccd cl outer A₀ base h₀ L m s Q E B F X T hk _ hd hu hret
  refine wpAny_with_toks (Nat.le_refl _) (wpAny_call ?_)
  walk_at "mine enter"
  intro L' h' tk htk0 F' N' B' X' T'
  (try dsimp only); (try k_fold)
  k_steps
  all_goals (exact hret _ _ _ (by assumption) (Fr.keep (by assumption)) ⟨_, rfl⟩)
end Mine
end
section
open PySem PySem.W PyProof.Rows
namespace Mine
set_option maxRecDepth 100000
set_option maxHeartbeats 8000000
theorem fillV1 : (fun (_ : OpenLaw) (_ : Params → Frag) => True) PySem.Challenge.rw_pg0113_01 Mine.hd.heap_39 := by k_fill; w_top off; trivial
local macro_rules | `(tactic| walk_at "mine enterC") => `(tactic| (k_dflt (refine' pure_defC ?k1 ?k2 ?k3 ?k5 ?kA ?kF ?kK ?k6 ?k7 ?k8 ?k9 ?kB ?kD ?_ ?c2 ?c3 ?c4; (case kA => exact rfl); (case kF => exact rfl); (case kK => assumption); (case k1 => k_asm); (case k2 => k_asm); (case k3 => k_asm); (case k5 => k_asm); (case k6 => k_is); (case k7 => k_is); (case k8 => ktr_room); (case k9 => exact BindsTo.of_eq rfl); (case kB => exact rfl); (case kD => decide +kernel); (case c2 => exact rfl); (case c3 => exact rfl); (case c4 => exact rfl); k_whole)))

local macro_rules | `(tactic| walk_at "eval ListComp") => `(tactic| (k_here; k_dflt (refine LCg.ListComp_U (F₀ := by k_asm) (by with_unfolding_all rfl) (by decide) (by rfl) (by decide) (by rfl) ?_)))
local macro_rules | `(tactic| walk_at "CompSrc") => `(tactic| refine stop_in ?_)
def valOf (n : Int) : Str := Txt.join "" (List.map (fun a => Txt.item "\\,\"&\\>x " (((n.fdiv 4).fdiv (8 ^ a.toNat)).fmod 8)) (rangeKs 0 (n.fmod 4 - 0).toNat))
theorem val_c (w : World) (n : Int) (t : Tok) : PClaim w 59 [.int n t] NoPre (IsS (valOf n)) := by
  intro p loose mean mg mb dp un gd cn cs a ccd cl outer A₀ base h₀ L m s Q E B F X T hk _ hd hu hret
  have h4 : 0 ≤ n.fmod 4 ∧ n.fmod 4 < 4 := ⟨Int.fmod_nonneg_of_pos _ (by decide), Int.fmod_lt_of_pos _ (by decide)⟩
  refine wpAny_with_toks (Nat.le_refl _) (wpAny_call ?_)
  walk_at "mine enterC"
  intro L' h' tk cells' F' N' Y' B' X' T'
  k_cells Y'
  (try simp only [List.cons_append, List.nil_append] at N')
  (try dsimp only); (try k_fold)
  k_steps
  refine stop_out ?_
  k_dflt (refine LCg.CompSrc.range (by rfl) (by k_asm) (by k_asm) (by assumption) (small_one (by omega) (by omega) (by omega) (by omega)) (rangeSize_nat _ _) (by rw [PySem.sizeLine_eq]; omega) ?_)
  intro g'
  refine' kct_range (fun k => Txt.item "\\,\"&\\>x " (((n.fdiv 4).fdiv (8 ^ k.toNat)).fmod 8)) (fun k' t' I' oI' C' oC' D' m' ys' h' tk' E' hlo' hhi' hC' hx' F' N' off' ne' _ => ?_) ?_
  · (try (simp only [LCg.Off3, and_true] at off'))
    obtain rfl | rfl | rfl : k' = 0 ∨ k' = 1 ∨ k' = 2 := by omega
    all_goals ((try dsimp only); (try k_fold); k_steps)
  · unfold KPfDone
    intro ys hys hlen
    k_steps
    all_goals (exact hret _ _ _ (by assumption) (Fr.keep (by assumption)) ⟨_, rfl⟩)
end Mine
end
section
open PySem PySem.W PyProof.Rows
namespace Mine
set_option maxRecDepth 100000
set_option maxHeartbeats 8000000
local macro_rules | `(tactic| walk_at "idle") => `(tactic| skip)
theorem fillS1 : (fun (_ : OpenLaw) (_ : Params → Frag) => True) PySem.Challenge.rw_pg0113_01 Mine.hd.heap_39 := by k_fill; w_top off; trivial
local macro_rules | `(tactic| walk_at "mine enterC") => `(tactic| (k_dflt (refine' pure_defC ?k1 ?k2 ?k3 ?k5 ?kA ?kF ?kK ?k6 ?k7 ?k8 ?k9 ?kB ?kD ?_ ?c2 ?c3 ?c4; (case kA => exact rfl); (case kF => exact rfl); (case kK => assumption); (case k1 => k_asm); (case k2 => k_asm); (case k3 => k_asm); (case k5 => k_asm); (case k6 => k_is); (case k7 => k_is); (case k8 => ktr_room); (case k9 => exact BindsTo.of_eq rfl); (case kB => exact rfl); (case kD => decide +kernel); (case c2 => exact rfl); (case c3 => exact rfl); (case c4 => exact rfl); k_whole)))



local macro_rules | `(tactic| walk_at "eval ListComp") => `(tactic| (k_here; k_dflt (refine ListComp_S (by k_asm) (by with_unfolding_all rfl) (by decide) (by rfl) (by decide) (by rfl) ?_)))
def spC (hand : Int) (c : Nat) : Str :=
  if c = 38 then "&amp;" else if c = 60 then (if hand = 1 then "<" else "&lt;") else if c = 62 then (if hand = 2 then ">" else "&gt;") else if c = 34 then "&quot;" else ⟨#[c]⟩
def splOf (hand : Int) (x : Str) : Str := Txt.join "" (x.cps.toList.map (spC hand))
theorem spC_len (hand : Int) (c : Nat) : (spC hand c).length ≤ 6 := by
  unfold spC
  repeat' split
  all_goals first | decide | exact Nat.le_of_ble_eq_true rfl
theorem sum_le (g : Nat → Str) (b : Nat) (hg : ∀ c, (g c).length ≤ b) : ∀ l : List Nat, ((l.map g).map (·.length)).sum ≤ l.length * b
  | [] => by simp
  | c :: r => by
    have := sum_le g b hg r
    have h1 := hg c
    simp only [List.map_cons, List.sum_cons, List.length_cons, Nat.add_mul, Nat.one_mul]
    omega
theorem no_mark {M : Str} {l : List Nat} (hM : M.cps.toList = l) {c : Nat} (h : c ∉ l) : (Builtin.Str.occurrences M ⟨#[c]⟩ 0 M.length 1).isEmpty = true := by
  have := StrLaws.found_one M c
  rw [hM, decide_eq_false h] at this
  simpa using this
local macro_rules | `(tactic| walk_at "CompEnd") => `(tactic| (k_dflt (refine ce_text (by assumption) (by assumption) (by lcg_sub) (by assumption) True.intro ?_)))
theorem spl_c (w : World) (n : Int) (t : Tok) (x : Str) (t2 : Tok) (hn : n = 0 ∨ n = 1 ∨ n = 2) (hx : x.length ≤ 1000) : PClaim w 64 [.int n t, .str x t2] NoPre (IsS (splOf n x)) := by
  intro p loose mean mg mb dp un gd cn cs a ccd cl outer A₀ base h₀ L m s Q E B F X T hk _ hd hu hret
  refine wpAny_with_toks (Nat.le_refl _) (wpAny_call ?_)
  walk_at "mine enterC"
  intro L' h' tk cells' F' N' Y' B' X' T'
  k_cells Y'
  (try simp only [List.cons_append, List.nil_append] at N')
  (try dsimp only)
  rcases hn with rfl | rfl | rfl
  · (try dsimp only); (try k_fold)
    k_steps
    refine ⟨x, t2, _, rfl, rfl, by k_asm, by k_asm, (by rw [PySem.sizeLine_eq]; omega), ?_⟩
    rintro _ ⟨g', rfl⟩
    refine ct_rest (ks := x.cps.toList) (fun c v => ∃ u, v = .str ⟨#[c]⟩ u) (spC 0) (by simp) (fun i v _ hv => by obtain ⟨c, u, hc, e⟩ := hv; exact ⟨c, by simpa using hc, u, e⟩) ?_ ?_
    · rintro c v I' oI' C' oC' D' m' ys' h' tk' E' hc' ⟨u', rfl⟩ hC' hx' F' N' off' ne'
      have off0 := off'
      (try (simp only [LCg.Off3, and_true] at off'))
      by_cases hin : c ∈ ([38, 60, 62, 34] : List Nat)
      · simp only [List.mem_cons, List.not_mem_nil, or_false] at hin
        rcases hin with rfl | rfl | rfl | rfl
        · rw [show (⟨#[38]⟩ : Str) = Str.ofString "&" from by decide +kernel] at hx'
          ((try dsimp only); (try k_fold); k_steps)
          all_goals first | (rename_i hz; exact absurd hz (by decide +kernel)) | (rename_i hz _ _ _ _; exact absurd hz (by decide +kernel)) | decide +kernel
        · rw [show (⟨#[60]⟩ : Str) = Str.ofString "<" from by decide +kernel] at hx'
          ((try dsimp only); (try k_fold); k_steps)
          all_goals first | (rename_i hz; exact absurd hz (by decide +kernel)) | (rename_i hz _ _ _ _; exact absurd hz (by decide +kernel)) | decide +kernel
        · rw [show (⟨#[62]⟩ : Str) = Str.ofString ">" from by decide +kernel] at hx'
          ((try dsimp only); (try k_fold); k_steps)
          all_goals first | (rename_i hz; exact absurd hz (by decide +kernel)) | (rename_i hz _ _ _ _; exact absurd hz (by decide +kernel)) | decide +kernel
        · rw [show (⟨#[34]⟩ : Str) = Str.ofString "\"" from by decide +kernel] at hx'
          ((try dsimp only); (try k_fold); k_steps)
          all_goals first | (rename_i hz; exact absurd hz (by decide +kernel)) | (rename_i hz _ _ _ _; exact absurd hz (by decide +kernel)) | decide +kernel
      · have hno := no_mark (M := Str.ofString "&<>\"") (l := [38, 60, 62, 34]) (by decide +kernel) hin
        ((try dsimp only); (try k_fold); k_steps)
        all_goals (simp only [List.mem_cons, List.not_mem_nil, or_false, not_or] at hin; unfold spC; simp [hin])
        all_goals (intro e; subst e; decide +kernel)
    · intro ys hys
      have hw : ((List.map (spC 0) x.cps.toList).map (·.length)).sum + (List.map (spC 0) x.cps.toList).length * (Str.ofString "").length ≤ 16777216 := by
        have h1 := sum_le (spC 0) 6 (spC_len 0) x.cps.toList
        have h2 : x.cps.toList.length = x.length := by simp [Str.length]
        have h3 : (Str.ofString "").length = 0 := by decide +kernel
        rw [h3]; omega
      k_steps
      refine join_list (News.isList (by assumption) (by k_mem)) (by simpa using hys) hw ?_
      intro t' k'
      k_steps
      all_goals (exact hret _ _ _ (by assumption) (Fr.keep (by assumption)) ⟨_, rfl⟩)
  · (try dsimp only); (try k_fold)
    k_steps
    refine ⟨x, t2, _, rfl, rfl, by k_asm, by k_asm, (by rw [PySem.sizeLine_eq]; omega), ?_⟩
    rintro _ ⟨g', rfl⟩
    refine ct_rest (ks := x.cps.toList) (fun c v => ∃ u, v = .str ⟨#[c]⟩ u) (spC 1) (by simp) (fun i v _ hv => by obtain ⟨c, u, hc, e⟩ := hv; exact ⟨c, by simpa using hc, u, e⟩) ?_ ?_
    · rintro c v I' oI' C' oC' D' m' ys' h' tk' E' hc' ⟨u', rfl⟩ hC' hx' F' N' off' ne'
      have off0 := off'
      (try (simp only [LCg.Off3, and_true] at off'))
      by_cases hin : c ∈ ([38, 62, 34] : List Nat)
      · simp only [List.mem_cons, List.not_mem_nil, or_false] at hin
        rcases hin with rfl | rfl | rfl
        · rw [show (⟨#[38]⟩ : Str) = Str.ofString "&" from by decide +kernel] at hx'
          ((try dsimp only); (try k_fold); k_steps)
          all_goals first | (rename_i hz; exact absurd hz (by decide +kernel)) | (rename_i hz _ _ _ _; exact absurd hz (by decide +kernel)) | decide +kernel
        · rw [show (⟨#[62]⟩ : Str) = Str.ofString ">" from by decide +kernel] at hx'
          ((try dsimp only); (try k_fold); k_steps)
          all_goals first | (rename_i hz; exact absurd hz (by decide +kernel)) | (rename_i hz _ _ _ _; exact absurd hz (by decide +kernel)) | decide +kernel
        · rw [show (⟨#[34]⟩ : Str) = Str.ofString "\"" from by decide +kernel] at hx'
          ((try dsimp only); (try k_fold); k_steps)
          all_goals first | (rename_i hz; exact absurd hz (by decide +kernel)) | (rename_i hz _ _ _ _; exact absurd hz (by decide +kernel)) | decide +kernel
      · have hno := no_mark (M := Str.ofString "&>\"") (l := [38, 62, 34]) (by decide +kernel) hin
        ((try dsimp only); (try k_fold); k_steps)
        all_goals (simp only [List.mem_cons, List.not_mem_nil, or_false, not_or] at hin; unfold spC; simp [hin])
        all_goals (intro e; subst e; decide +kernel)
    · intro ys hys
      have hw : ((List.map (spC 1) x.cps.toList).map (·.length)).sum + (List.map (spC 1) x.cps.toList).length * (Str.ofString "").length ≤ 16777216 := by
        have h1 := sum_le (spC 1) 6 (spC_len 1) x.cps.toList
        have h2 : x.cps.toList.length = x.length := by simp [Str.length]
        have h3 : (Str.ofString "").length = 0 := by decide +kernel
        rw [h3]; omega
      k_steps
      refine join_list (News.isList (by assumption) (by k_mem)) (by simpa using hys) hw ?_
      intro t' k'
      k_steps
      all_goals (exact hret _ _ _ (by assumption) (Fr.keep (by assumption)) ⟨_, rfl⟩)
  · (try dsimp only); (try k_fold)
    k_steps
    refine ⟨x, t2, _, rfl, rfl, by k_asm, by k_asm, (by rw [PySem.sizeLine_eq]; omega), ?_⟩
    rintro _ ⟨g', rfl⟩
    refine ct_rest (ks := x.cps.toList) (fun c v => ∃ u, v = .str ⟨#[c]⟩ u) (spC 2) (by simp) (fun i v _ hv => by obtain ⟨c, u, hc, e⟩ := hv; exact ⟨c, by simpa using hc, u, e⟩) ?_ ?_
    · rintro c v I' oI' C' oC' D' m' ys' h' tk' E' hc' ⟨u', rfl⟩ hC' hx' F' N' off' ne'
      have off0 := off'
      (try (simp only [LCg.Off3, and_true] at off'))
      by_cases hin : c ∈ ([38, 60, 34] : List Nat)
      · simp only [List.mem_cons, List.not_mem_nil, or_false] at hin
        rcases hin with rfl | rfl | rfl
        · rw [show (⟨#[38]⟩ : Str) = Str.ofString "&" from by decide +kernel] at hx'
          ((try dsimp only); (try k_fold); k_steps)
          all_goals first | (rename_i hz; exact absurd hz (by decide +kernel)) | (rename_i hz _ _ _ _; exact absurd hz (by decide +kernel)) | decide +kernel
        · rw [show (⟨#[60]⟩ : Str) = Str.ofString "<" from by decide +kernel] at hx'
          ((try dsimp only); (try k_fold); k_steps)
          all_goals first | (rename_i hz; exact absurd hz (by decide +kernel)) | (rename_i hz _ _ _ _; exact absurd hz (by decide +kernel)) | decide +kernel
        · rw [show (⟨#[34]⟩ : Str) = Str.ofString "\"" from by decide +kernel] at hx'
          ((try dsimp only); (try k_fold); k_steps)
          all_goals first | (rename_i hz; exact absurd hz (by decide +kernel)) | (rename_i hz _ _ _ _; exact absurd hz (by decide +kernel)) | decide +kernel
      · have hno := no_mark (M := Str.ofString "&<\"") (l := [38, 60, 34]) (by decide +kernel) hin
        ((try dsimp only); (try k_fold); k_steps)
        all_goals (simp only [List.mem_cons, List.not_mem_nil, or_false, not_or] at hin; unfold spC; simp [hin])
        all_goals (intro e; subst e; decide +kernel)
    · intro ys hys
      have hw : ((List.map (spC 2) x.cps.toList).map (·.length)).sum + (List.map (spC 2) x.cps.toList).length * (Str.ofString "").length ≤ 16777216 := by
        have h1 := sum_le (spC 2) 6 (spC_len 2) x.cps.toList
        have h2 : x.cps.toList.length = x.length := by simp [Str.length]
        have h3 : (Str.ofString "").length = 0 := by decide +kernel
        rw [h3]; omega
      k_steps
      refine join_list (News.isList (by assumption) (by k_mem)) (by simpa using hys) hw ?_
      intro t' k'
      k_steps
      all_goals (exact hret _ _ _ (by assumption) (Fr.keep (by assumption)) ⟨_, rfl⟩)
end Mine
end
section
open PySem PySem.W PyProof.Rows
namespace Mine
set_option maxRecDepth 100000
set_option maxHeartbeats 8000000
theorem fillP1 : (fun (_ : OpenLaw) (_ : Params → Frag) => True) PySem.Challenge.rw_pg0113_01 Mine.hd.heap_39 := by k_fill; w_top off; trivial
local macro_rules | `(tactic| walk_at "mine enter") => `(tactic| (k_dflt (refine' pure_def ?k1 ?k2 ?k3 ?k5 ?kA ?kF ?kK ?k6 ?k7 ?k8 ?k9 ?kB ?kb ?_ ?c2 ?c3 ?c4 ?c5; (case kA => exact rfl); (case kF => exact rfl); (case kK => assumption); (case k1 => k_asm); (case k2 => k_asm); (case k3 => k_asm); (case k5 => k_asm); (case k6 => k_is); (case k7 => k_is); (case k8 => ktr_room); (case k9 => exact BindsTo.of_eq rfl); (case c5 => decide); (case kB => exact locs rfl); (case kb => exact Nat.le_of_ble_eq_true rfl); (case c2 => exact rfl); (case c3 => exact rfl); (case c4 => exact rfl); k_whole)))
local macro_rules | `(tactic| walk_at "exec For Name Name cons nil") => `(tactic| (k_here; (rename Fr _ _ _ _ => lF'); (with_unfolding_all refine' For_invVF lF' ?k1 ?k2 ?_; (case k1 => exact rfl); (case k2 => exact rfl); k_whole)))
local macro_rules | `(tactic| walk_at "pyIter str") => `(tactic| refine stop_in ?_)

local macro_rules | `(tactic| walk_at "CompSrc") => `(tactic| refine stop_in ?_)
local macro_rules | `(tactic| walk_at "CompEnd") => `(tactic| (k_dflt (refine ce_text (by assumption) (by assumption) (by lcg_sub) (by assumption) (by lcg_src) ?_)))
abbrev PSt := List Str × Str × Bool × Bool
def pstep : PSt → Nat → PSt
  | (res, part, true, q), c => (res, part ++ ⟨#[c]⟩, false, q)
  | (res, part, false, true), c => if c = 92 then (res, part, true, true) else if c = 34 then (res, part ++ ⟨#[c]⟩, false, false) else (res, part ++ ⟨#[c]⟩, false, true)
  | (res, part, false, false), c => if c = 44 then (res ++ [part], Str.ofString "", false, false) else if c = 34 then (res, part ++ ⟨#[c]⟩, false, true) else (res, part ++ ⟨#[c]⟩, false, false)
def prun (l : List Nat) : PSt := l.foldl pstep ([], Str.ofString "", false, false)
structure PFit (n : Nat) (σ : PSt) : Prop where
  res : σ.1.length ≤ n
  part : σ.2.1.length ≤ n
  each : ∀ y ∈ σ.1, y.length ≤ n
theorem pstep_len (σ : PSt) (c n : Nat) (h : PFit n σ) : PFit (n + 1) (pstep σ c) := by
  obtain ⟨res, part, e, q⟩ := σ
  obtain ⟨h1, h2, h3⟩ := h
  have hc : (⟨#[c]⟩ : Str).length = 1 := rfl
  have h0 : (Str.ofString "").length = 0 := by decide +kernel
  have h3' : ∀ y ∈ res, y.length ≤ n + 1 := fun y hy => Nat.le_succ_of_le (h3 y hy)
  simp only at h1 h2
  cases e <;> cases q <;> simp only [pstep] <;> (repeat' split) <;> refine ⟨?_, ?_, ?_⟩ <;> simp only [Str.length_append, List.length_append, List.length_singleton] <;> first | omega | exact h3' | (intro y hy; rcases List.mem_append.mp hy with hy | hy; (exact h3' y hy); (rw [List.mem_singleton.mp hy]; omega))
theorem prun_len : ∀ (l : List Nat) (σ : PSt) (n : Nat), PFit n σ → PFit (n + l.length) (l.foldl pstep σ)
  | [], σ, n, h => h
  | c :: r, σ, n, h => by
    have := prun_len r (pstep σ c) (n + 1) (pstep_len σ c n h)
    simp only [List.foldl_cons, List.length_cons]
    rw [show n + (r.length + 1) = n + 1 + r.length by omega]
    exact this
theorem prun_fit (l : List Nat) : PFit l.length (prun l) := by
  have := prun_len l ([], Str.ofString "", false, false) 0 ⟨Nat.zero_le _, Nat.le_of_eq (by decide +kernel), fun y hy => nomatch hy⟩
  rw [Nat.zero_add] at this
  exact this
def parOf (x : Str) : List Str := ((if (prun x.cps.toList).2.1.length = 0 then (prun x.cps.toList).1 else (prun x.cps.toList).1 ++ [(prun x.cps.toList).2.1])).map Txt.strip
def PInv (R : Addr) (l : List Nat) (i : Nat) (m' : Str → Option Value) (news' : List (Addr × Obj)) : Prop :=
  ∃ us res part tp e q n, prun (l.take i) = (res, part, e, q) ∧ StrsAre us res ∧ news' = [(R, W.listOf us.toArray n)] ∧ m' (Str.ofString "res") = some (.ref R) ∧ m' (Str.ofString "part") = some (.str part tp) ∧ m' (Str.ofString "escape") = some (.bool e) ∧ m' (Str.ofString "quote") = some (.bool q)
theorem map_four {m₁ : Str → Option Value} {v a b c d : Value} {x : Str} (h1 : m₁ (Str.ofString "res") = some a) (h2 : m₁ (Str.ofString "part") = some b) (h3 : m₁ (Str.ofString "escape") = some c) (h4 : m₁ (Str.ofString "quote") = some d) :
    (fun y => if y = x then some v else m₁ y) = (fun y => if y = x then some v else if y = Str.ofString "res" then some a else if y = Str.ofString "part" then some b else if y = Str.ofString "escape" then some c else if y = Str.ofString "quote" then some d else m₁ y) := by
  funext y
  split
  · rfl
  · (repeat' split) <;> first | rfl | (rename_i e; rw [e]; assumption)
theorem map_four' {m₁ : Str → Option Value} {a b c d : Value} (h1 : m₁ (Str.ofString "res") = some a) (h2 : m₁ (Str.ofString "part") = some b) (h3 : m₁ (Str.ofString "escape") = some c) (h4 : m₁ (Str.ofString "quote") = some d) :
    m₁ = (fun y => if y = Str.ofString "res" then some a else if y = Str.ofString "part" then some b else if y = Str.ofString "escape" then some c else if y = Str.ofString "quote" then some d else m₁ y) := by
  funext y
  (repeat' split) <;> first | rfl | (rename_i e; rw [e]; assumption)
theorem ne_one {c d : Nat} {y : Str} (hy : y = ⟨#[d]⟩) (h : c ≠ d) : ((⟨#[c]⟩ : Str) == y) = false := by
  subst hy
  cases hb : ((⟨#[c]⟩ : Str) == ⟨#[d]⟩) with
  | false => rfl
  | true =>
    have := eq_of_beq hb
    injection this with e
    exact absurd (by simpa using e) h
theorem par_c (w : World) (x : Str) (t : Tok) (hx : x.length ≤ 10000) : PClaim w 26 [.str x t] NoPre (IsL (parOf x)) := by
  intro p loose mean mg mb dp un gd cn cs a ccd cl outer A₀ base h₀ L m s Q E B F X T hk _ hd hu hret
  refine wpAny_with_toks (Nat.le_refl _) (wpAny_call ?_)
  walk_at "mine enter"
  intro L' h' tk htk0 F' N' B' X' T'
  (try dsimp only); (try k_fold)
  k_steps
  refine stop_out ?_
  refine for_text rfl (by assumption) (by assumption) (PInv _ x.cps.toList) ⟨[], [], Str.ofString "", _, false, false, 0, rfl, .nil, rfl, rfl, rfl, rfl, rfl⟩ ?_ ?_
  · rintro i c t m₁ _ I oI h tk' hc ⟨us, res, part, tp, e, q, n, hrun, hus, rfl, hm1, hm2, hm3, hm4⟩ off F₁ N₁ g
    rw [map_four hm1 hm2 hm3 hm4] at F₁
    replace F₁ : Fr s.heap L' h _ := F₁
    replace N₁ : News s.heap L' h _ := N₁
    have hIR := off _ List.mem_cons_self
    replace hIR := neN hIR
    have hlen := prun_fit (x.cps.toList.take i)
    have hlx : x.cps.toList.length = x.length := by simp [Str.length]
    have hrun' : List.foldl pstep ([], Str.ofString "", false, false) (List.take i x.cps.toList) = (res, part, e, q) := hrun
    rw [hrun, List.length_take] at hlen
    have hpl : part.length ≤ 10000 := by have := hlen.part; (try simp only at this); omega
    have hul : us.length ≤ 10000 := by have := hlen.res; have h2 := hus.len_eq; (try simp only at this); omega
    have hnext : prun (x.cps.toList.take (i + 1)) = pstep (res, part, e, q) c := by
      unfold prun
      rw [List.take_add_one, hc, List.foldl_append, hrun']
      rfl
    clear hlen hlx hrun' hm1 hm2 hm3 hm4 hrun
    cases e with
    | true =>
      (try dsimp only); (try k_fold)
      k_steps
      all_goals exact TurnEnd.on (news' := [(_, W.listOf us.toArray n)]) (by first | exact .inl rfl | exact .inr rfl) (by assumption) (by assumption) (fun p hp => hp) off ⟨us, _, _, _, _, _, n, hnext.trans (by rfl), hus, rfl, rfl, rfl, rfl, rfl⟩
    | false =>
      cases q with
      | true =>
        by_cases h92 : c = 92
        · subst h92
          rw [show (⟨#[92]⟩ : Str) = Str.ofString "\\" from by decide +kernel] at F₁
          (try dsimp only); (try k_fold)
          k_steps
          all_goals exact TurnEnd.on (news' := [(_, W.listOf us.toArray n)]) (by first | exact .inl rfl | exact .inr rfl) (by assumption) (by assumption) (fun p hp => hp) off ⟨us, _, _, _, _, _, n, hnext.trans (by rfl), hus, rfl, rfl, rfl, rfl, rfl⟩
        · by_cases h34 : c = 34
          · subst h34
            rw [show (⟨#[34]⟩ : Str) = Str.ofString "\"" from by decide +kernel] at F₁
            (try dsimp only); (try k_fold)
            k_steps
            all_goals exact TurnEnd.on (news' := [(_, W.listOf us.toArray n)]) (by first | exact .inl rfl | exact .inr rfl) (by assumption) (by assumption) (fun p hp => hp) off ⟨us, _, _, _, _, _, n, hnext.trans (by (show _ = _); (first | rfl | decide +kernel)), hus, rfl, rfl, rfl, rfl, rfl⟩
          · have n92 := ne_one (d := 92) (y := Str.ofString "\\") (by decide +kernel) h92
            have n34 := ne_one (d := 34) (y := Str.ofString "\"") (by decide +kernel) h34
            (try dsimp only); (try k_fold)
            k_steps
            all_goals exact TurnEnd.on (news' := [(_, W.listOf us.toArray n)]) (by first | exact .inl rfl | exact .inr rfl) (by assumption) (by assumption) (fun p hp => hp) off ⟨us, _, _, _, _, _, n, hnext.trans (by simp only [pstep, if_neg h92, if_neg h34]; rfl), hus, rfl, rfl, rfl, rfl, rfl⟩
      | false =>
        by_cases h44 : c = 44
        · subst h44
          rw [show (⟨#[44]⟩ : Str) = Str.ofString "," from by decide +kernel] at F₁
          (try dsimp only); (try k_fold)
          k_steps
          all_goals exact TurnEnd.on (news' := [(_, W.listOf (us.toArray.push (Value.str part tp)) (n + 1))]) (by first | exact .inl rfl | exact .inr rfl) (by assumption) (by assumption) (fun p hp => hp) (fun p hp => by rw [List.mem_singleton.mp hp]; exact hIR) ⟨us ++ [Value.str part tp], _, _, _, _, _, n + 1, hnext.trans (by rfl), kct_snoc hus, by rw [List.push_toArray], rfl, rfl, rfl, rfl⟩
        · by_cases h34 : c = 34
          · subst h34
            rw [show (⟨#[34]⟩ : Str) = Str.ofString "\"" from by decide +kernel] at F₁
            (try dsimp only); (try k_fold)
            k_steps
            all_goals exact TurnEnd.on (news' := [(_, W.listOf us.toArray n)]) (by first | exact .inl rfl | exact .inr rfl) (by assumption) (by assumption) (fun p hp => hp) off ⟨us, _, _, _, _, _, n, hnext.trans (by rfl), hus, rfl, rfl, rfl, rfl, rfl⟩
          · have n44 := ne_one (d := 44) (y := Str.ofString ",") (by decide +kernel) h44
            have n34 := ne_one (d := 34) (y := Str.ofString "\"") (by decide +kernel) h34
            (try dsimp only); (try k_fold)
            k_steps
            all_goals exact TurnEnd.on (news' := [(_, W.listOf us.toArray n)]) (by first | exact .inl rfl | exact .inr rfl) (by assumption) (by assumption) (fun p hp => hp) off ⟨us, _, _, _, _, _, n, hnext.trans (by simp only [pstep, if_neg h44, if_neg h34]; rfl), hus, rfl, rfl, rfl, rfl, rfl⟩
  · rintro h tk' m' _ F₁ N₁ ⟨us, res, part, tp, e, q, n, hrun, hus, rfl, hm1, hm2, hm3, hm4⟩
    rw [map_four' hm1 hm2 hm3 hm4] at F₁
    replace F₁ : Fr s.heap L' h _ := F₁
    replace N₁ : News s.heap L' h _ := N₁
    have hlen := prun_fit x.cps.toList
    have hlx : x.cps.toList.length = x.length := by simp [Str.length]
    have hrn : prun x.cps.toList = (res, part, e, q) := by
      have e1 : x.cps.toList.take x.cps.size = x.cps.toList := List.take_of_length_le (Nat.le_of_eq (by simp))
      rw [← e1]; exact hrun
    rw [hrn] at hlen
    have hpl : part.length ≤ 10000 := by have := hlen.part; (try simp only at this); omega
    have hul : us.length ≤ 10000 := by have := hlen.res; have h2 := hus.len_eq; (try simp only at this); omega
    have heach : ∀ y ∈ res, y.length ≤ 10000 := fun y hy => by have := hlen.each y hy; omega
    clear hlen hlx hm1 hm2 hm3 hm4 hrun
    (try dsimp only); (try k_fold)
    k_steps
    · have hl0 : part.length ≠ 0 := by omega
      have hus2 : StrsAre (us ++ [Value.str part tp]) (res ++ [part]) := kct_snoc hus
      have hout : parOf x = (res ++ [part]).map Txt.strip := by unfold parOf; rw [hrn]; simp only [if_neg hl0]
      have hpush : us.toArray.push (Value.str part tp) = (us ++ [Value.str part tp]).toArray := List.push_toArray us _
      have heach2 : ∀ y ∈ res ++ [part], y.length ≤ 10000 := fun y hy => by
        rcases List.mem_append.mp hy with hy | hy
        · exact heach y hy
        · rw [List.mem_singleton.mp hy]; exact hpl
      simp only [hpush] at *
      refine stop_out ?_
      k_dflt (refine LCg.CompSrc.ledger (by rfl) (by k_asm) (by k_asm) (by k_mem) (by rw [PySem.sizeLine_eq]; simp; omega) ?_)
      intro g'
      refine ct_rest (ks := res ++ [part]) (fun y v => y.length ≤ 10000 ∧ ∃ t, v = .str y t) Txt.strip (by rw [List.size_toArray]; exact hus2.len_eq.symm) (fun i v _ hv => ?_) ?_ ?_
      · obtain ⟨y, t, e, hy⟩ := hus2.item i v (by simpa using hv)
        exact ⟨y, hy, heach2 y (List.mem_of_getElem? hy), t, e⟩
      · rintro y v I' oI' C' oC' D' m₂ ys' h' tk' E' hc' ⟨hyl', t', rfl⟩ hC' hx' F' N' off' ne'
        have off0 := off'
        (try (simp only [LCg.Off3, and_true] at off'))
        (try dsimp only); (try k_fold)
        k_steps
        all_goals rfl
      · intro ys hys
        k_steps
        all_goals (refine hret _ _ _ (by assumption) (Fr.keep (by assumption)) ?_; rw [hout]; exact ⟨_, ys, rfl, hys, News.fresh (by assumption) List.mem_cons_self, News.isList (by assumption) List.mem_cons_self⟩)
    · have hl0 : part.length = 0 := by omega
      have hus2 := hus
      have heach2 := heach
      have hout : parOf x = res.map Txt.strip := by unfold parOf; rw [hrn]; simp only [if_pos hl0]
      refine stop_out ?_
      k_dflt (refine LCg.CompSrc.ledger (by rfl) (by k_asm) (by k_asm) (by k_mem) (by rw [PySem.sizeLine_eq]; simp; omega) ?_)
      intro g'
      refine ct_rest (ks := res) (fun y v => y.length ≤ 10000 ∧ ∃ t, v = .str y t) Txt.strip (by rw [List.size_toArray]; exact hus2.len_eq.symm) (fun i v _ hv => ?_) ?_ ?_
      · obtain ⟨y, t, e, hy⟩ := hus2.item i v (by simpa using hv)
        exact ⟨y, hy, heach2 y (List.mem_of_getElem? hy), t, e⟩
      · rintro y v I' oI' C' oC' D' m₂ ys' h' tk' E' hc' ⟨hyl', t', rfl⟩ hC' hx' F' N' off' ne'
        have off0 := off'
        (try (simp only [LCg.Off3, and_true] at off'))
        (try dsimp only); (try k_fold)
        k_steps
        all_goals rfl
      · intro ys hys
        k_steps
        all_goals (refine hret _ _ _ (by assumption) (Fr.keep (by assumption)) ?_; rw [hout]; exact ⟨_, ys, rfl, hys, News.fresh (by assumption) List.mem_cons_self, News.isList (by assumption) List.mem_cons_self⟩)
end Mine
end
section
open PySem PySem.W PyProof.Rows
namespace Mine
set_option maxRecDepth 100000
set_option maxHeartbeats 8000000
local macro_rules | `(tactic| walk_at "idle") => `(tactic| skip)
theorem fillK1 : (fun (_ : OpenLaw) (_ : Params → Frag) => True) PySem.Challenge.rw_pg0113_01 Mine.hd.heap_39 := by k_fill; w_top off; trivial
local macro_rules | `(tactic| walk_at "mine enter") => `(tactic| (k_dflt (refine' pure_def ?k1 ?k2 ?k3 ?k5 ?kA ?kF ?kK ?k6 ?k7 ?k8 ?k9 ?kB ?kb ?_ ?c2 ?c3 ?c4 ?c5; (case kA => exact rfl); (case kF => exact rfl); (case kK => assumption); (case k1 => k_asm); (case k2 => k_asm); (case k3 => k_asm); (case k5 => k_asm); (case k6 => k_is); (case k7 => k_is); (case k8 => ktr_room); (case k9 => exact BindsTo.of_eq rfl); (case c5 => decide); (case kB => exact locs rfl); (case kb => exact Nat.le_of_ble_eq_true rfl); (case c2 => exact rfl); (case c3 => exact rfl); (case c4 => exact rfl); k_whole)))
local macro_rules | `(tactic| walk_at "exec For Name Name cons nil") => `(tactic| (k_here; (rename Fr _ _ _ _ => lF'); (with_unfolding_all refine' For_invVF lF' ?k1 ?k2 ?_; (case k1 => exact rfl); (case k2 => exact rfl); k_whole)))
local macro_rules | `(tactic| walk_at "pyIter ref") => `(tactic| refine stop_in ?_)
section
variable {prog : Program} {w : World} {A : Around} {E : Value → Shared → Prop} {s : Shared} {h₀ : Heap} {L : Addr} {m : Str → Option Value} {news : List (Addr × Obj)} {x a b : Str} {t u v : Tok} {Q : Value → Shared → Prop}
theorem split_two (F : Fr h₀ L s.heap m) (N : News h₀ L s.heap news) (hsp : Txt.splitMax x "=" 1 = [a, b]) (hsz : x.length + 2 ≤ sizeLine)
    (h : ∀ D t1 t2 h' tk, Fr h₀ L h' m → News h₀ L h' ((D, W.listOf #[.str a t1, .str b t2] 0) :: news) → (∀ p ∈ news, p.1 < D) → Q (.ref D) { s with heap := h', toks := tk }) :
    wpAny (model prog w) A (call (.builtin "str.split") [.str x t, .str "=" u, .int 1 v]) Q E s := by
  refine splitN2A F N (by decide) (by decide) (fun l h' tk e _ _ _ F' N' => ?_) hsz
  rw [hsp] at e
  obtain ⟨t1, l', rfl, e2⟩ := KSpl.cons_of e
  obtain ⟨t2, l'', rfl, e3⟩ := KSpl.cons_of e2
  obtain rfl := KSpl.nil_of e3
  exact h _ t1 t2 h' tk F' N' fun p hp => Heap.lt_size (N p hp).1
end
local macro_rules | `(tactic| walk_at "call builtin:str.split") => `(tactic| (k_here; k_dflt (refine split_two (by k_asm) (by k_asm) (by assumption) (by rw [PySem.sizeLine_eq]; omega) ?_; intro D' t1' t2' h' tk' F' N' l1; (try k_lt l1); (try k_sweep))))
local macro_rules | `(tactic| walk_at "setItem ref str") => `(tactic| (k_here; k_dflt (refine' setItem_K PyProof.V.same_str (strKind_is _ _ _ _) ?v ?F ?N ?U ?d ?f ?_ ?z; (case F => k_asm); (case N => k_asm); (case U => k_updF); (case d => k_asm); (case f => k_asm); (case z => (rw [PySem.sizeLine_eq]; assumption)); (case v => k_flat); intro h' o' F' N' hd' hf'; (try dsimp only at N'); (try k_sweep))))
def SV (a : Str × Value) (b : Str × Str) : Prop := a.1 = b.1 ∧ ∃ t, a.2 = .str b.2 t
def unq (v : Str) : Str := if (Txt.item v 0 == Str.ofString "\"") = true then (if (Txt.item v (-1) == Str.ofString "\"") = true then Txt.slice v (some 1) (some (-1)) else v) else v
theorem paired_keys {f : Str → Str} : ∀ {kvs : List (Str × Value)} {qs : List (Str × Str)}, Paired SV kvs (qs.map fun p => (p.1, f p.2)) → kvs.map (·.1) = qs.map (·.1)
  | [], [], _ => rfl
  | _ :: _, [], h => nomatch h
  | [], _ :: _, h => nomatch h
  | a :: r, q :: qs, h => by
    cases h with
    | cons h1 h2 =>
      rw [List.map_cons, List.map_cons, paired_keys h2, h1.1]
theorem flat_length {kvs : List (Str × Value)} {D : List (PyData × PyData)} (h : PyProof.V.FlatPairs PyData.str kvs D) : D.length = kvs.length := by
  induction h with
  | nil => rfl
  | cons _ _ ih => rw [List.length_cons, List.length_cons, ih]
theorem stored_new {ps : List (Str × Str)} {i : Nat} {k v : Str} {kvs : List (Str × Value)} {x : Value} (hpr : kvs.map (·.1) = (ps.take i).map (·.1)) (hkv : ps[i]? = some (k, v)) (hnd : (ps.map (·.1)).Nodup) : stored kvs k x = kvs ++ [(k, x)] := by
  have hno : ∀ q ∈ kvs, q.1 ≠ k := by
    intro q hq e
    have h1 : k ∈ (ps.take i).map (·.1) := by rw [← hpr, ← e]; exact List.mem_map_of_mem hq
    have h2 : ps.map (·.1) = (ps.take i).map (·.1) ++ (ps.drop i).map (·.1) := by rw [← List.map_append, List.take_append_drop]
    have h3 : k ∈ (ps.drop i).map (·.1) := by
      have hlt := (List.getElem?_eq_some_iff.mp hkv)
      obtain ⟨hl, he⟩ := hlt
      rw [List.drop_eq_getElem_cons hl, he]
      exact List.mem_cons_self
    rw [h2] at hnd
    exact (List.nodup_append.mp hnd).2.2 k h1 k h3 rfl
  unfold stored
  rw [if_neg]
  intro hc
  obtain ⟨q, hq, e⟩ := List.any_eq_true.mp hc
  exact hno q hq (of_decide_eq_true e)
def IsD (w : World) (out : List (Str × Str)) (h : Heap) (v : Value) (h' : Heap) : Prop := ∃ d o kvs, v = .ref d ∧ (d == sysModules) = false ∧ h.get? d = none ∧ h'.get? d = some o ∧ o.IsDictOf (strKind prog0 w) kvs ∧ Paired SV kvs out
def KInv (w : World) (d : Addr) (ps : List (Str × Str)) (i : Nat) (m' : Str → Option Value) (news' : List (Addr × Obj)) : Prop :=
  ∃ o kvs D, news' = [(d, o)] ∧ o.IsDictOf (strKind prog0 w) kvs ∧ PyProof.V.FlatPairs PyData.str kvs D ∧ Paired SV kvs ((ps.take i).map fun p => (p.1, unq p.2)) ∧ m' (Str.ofString "parsed") = some (.ref d)
theorem kinv_next {w : World} {d I : Addr} {oI : Obj} {ps : List (Str × Str)} {i : Nat} {kk vv val : Str} {tv : Tok} {kvs : List (Str × Value)} {D' : List (PyData × PyData)} {o' : Obj} {h₀ : Heap} {L : Addr} {s : Shared} {Q : Flow → Shared → Prop} {h' : Heap} {tk : Nat} {m' : Str → Option Value} {all : List (Addr × Obj)}
    (hnd : (ps.map (·.1)).Nodup) (hkv : ps[i]? = some (kk, vv)) (hpr : Paired SV kvs ((ps.take i).map fun p => (p.1, unq p.2))) (hval : val = unq vv)
    (hd' : o'.IsDictOf (strKind prog0 w) (stored kvs kk (.str val tv))) (hf' : PyProof.V.FlatPairs PyData.str (stored kvs kk (.str val tv)) D')
    (F : Fr h₀ L h' m') (N : News h₀ L h' all) (sub : ∀ p ∈ [(I, oI), (d, o')], p ∈ all) (off : d ≠ I) (hm : m' (Str.ofString "parsed") = some (.ref d)) :
    TurnEnd h₀ L s I oI (KInv w d ps (i + 1)) Q .next { s with heap := h', toks := tk } := by
  have e := stored_new (x := .str val tv) (paired_keys hpr) hkv hnd
  rw [e] at hd' hf'
  refine TurnEnd.on (news' := [(d, o')]) (.inl rfl) F N sub (fun p hp => by rw [List.mem_singleton.mp hp]; exact off) ⟨o', _, D', rfl, hd', hf', ?_, hm⟩
  rw [List.take_add_one, hkv, List.map_append]
  exact hpr.snoc ⟨rfl, tv, by rw [hval]⟩
theorem map_one1 {m₁ : Str → Option Value} {v a : Value} {x : Str} (h1 : m₁ (Str.ofString "parsed") = some a) :
    (fun y => if y = x then some v else m₁ y) = (fun y => if y = x then some v else if y = Str.ofString "parsed" then some a else m₁ y) := by
  funext y
  split
  · rfl
  · (repeat' split) <;> first | rfl | (rename_i e; rw [e]; assumption)
theorem map_one1' {m₁ : Str → Option Value} {a : Value} (h1 : m₁ (Str.ofString "parsed") = some a) :
    m₁ = (fun y => if y = Str.ofString "parsed" then some a else m₁ y) := by
  funext y
  (repeat' split) <;> first | rfl | (rename_i e; rw [e]; assumption)
theorem keq_c (w : World) (l : Addr) (vs : List Value) (ys : List Str) (ps : List (Str × Str)) (hvs : StrsAre vs ys) (hys : ∀ y ∈ ys, y.length ≤ 10000) (hlen : ys.length = ps.length) (hlp : ps.length ≤ 1000)
    (hsp : ∀ (i : Nat) (y k v : Str), ys[i]? = some y → ps[i]? = some (k, v) → Txt.splitMax y "=" 1 = [k, v]) (hv : ∀ p ∈ ps, 1 ≤ p.2.length ∧ p.2.length ≤ 10000) (hnd : (ps.map (·.1)).Nodup) :
    PClaim w 21 [.ref l] (fun h => h.IsList l vs.toArray) (IsD w (ps.map fun p => (p.1, unq p.2))) := by
  intro p loose mean mg mb dp un gd cn cs a ccd cl outer A₀ base h₀ L m s Q E B F X T hk hpre hd hu hret
  refine wpAny_with_toks (Nat.le_refl _) (wpAny_call ?_)
  walk_at "mine enter"
  intro L' h' tk htk0 F' N' B' X' T'
  (try dsimp only); (try k_fold)
  k_steps
  refine stop_out ?_
  refine for_list rfl hpre hvs (by assumption) (by assumption) (KInv w _ ps) ⟨_, [], [], rfl, by assumption, by assumption, .nil, rfl⟩ ?_ ?_
  · rintro i y ty m₁ _ I oI h tk' hy ⟨o, kvs, D, rfl, ho, hfp, hpr, hm1⟩ off F₁ N₁ g
    have hi : i < ps.length := by
      rw [← hlen]
      exact (List.getElem?_eq_some_iff.mp hy).1
    obtain ⟨⟨kk, vv⟩, hkv⟩ : ∃ q, ps[i]? = some q := ⟨_, List.getElem?_eq_getElem hi⟩
    have hsp' := hsp i y kk vv hy hkv
    have hvl : 1 ≤ vv.length := (hv _ (List.mem_of_getElem? hkv)).1
    have hvu : vv.length ≤ 10000 := (hv _ (List.mem_of_getElem? hkv)).2
    have hDz : D.length ≤ 16777216 := by
      have h1 := flat_length hfp
      have h2 := hpr.length
      rw [List.length_map, List.length_take] at h2
      omega
    have hyl := hys y (List.mem_of_getElem? hy)
    rw [map_one1 hm1] at F₁
    replace F₁ : Fr s.heap L' h _ := F₁
    replace N₁ : News s.heap L' h _ := N₁
    have hIR := off _ List.mem_cons_self
    replace hIR := neN hIR
    (try dsimp only); (try k_fold)
    k_steps
    · exact kinv_next hnd hkv hpr (by unfold unq; rw [if_pos (by assumption), if_pos (by assumption)]) (by assumption) (by assumption) (by assumption) (by assumption) (by lcg_sub) hIR rfl
    · exact kinv_next hnd hkv hpr (by unfold unq; rw [if_pos (by assumption), if_neg (by simp only [Bool.not_eq_true]; assumption)]) (by assumption) (by assumption) (by assumption) (by assumption) (by lcg_sub) hIR rfl
    · exact kinv_next hnd hkv hpr (by unfold unq; rw [if_neg (by simp only [Bool.not_eq_true]; assumption)]) (by assumption) (by assumption) (by assumption) (by assumption) (by lcg_sub) hIR rfl
  · rintro h tk' m' _ F₁ N₁ ⟨o, kvs, D, rfl, ho, hfp, hpr, hm1⟩
    rw [map_one1' hm1] at F₁
    replace F₁ : Fr s.heap L' h _ := F₁
    replace N₁ : News s.heap L' h _ := N₁
    (try dsimp only); (try k_fold)
    k_steps
    rw [hlen, List.take_length] at hpr
    exact hret _ _ _ (by assumption) (Fr.keep (by assumption)) ⟨_, o, kvs, rfl, by assumption, News.fresh (by assumption) List.mem_cons_self, News.get (by assumption) List.mem_cons_self, ho, hpr⟩
end Mine
end
section
open PySem PySem.W PyProof.Rows
namespace Mine
set_option maxRecDepth 100000
set_option maxHeartbeats 8000000
theorem fillT1 : (fun (_ : OpenLaw) (_ : Params → Frag) => True) PySem.Challenge.rw_pg0113_01 Mine.hd.heap_39 := by k_fill; w_top off; trivial
local macro_rules | `(tactic| walk_at "mine enter") => `(tactic| (k_dflt (refine' pure_def ?k1 ?k2 ?k3 ?k5 ?kA ?kF ?kK ?k6 ?k7 ?k8 ?k9 ?kB ?kb ?_ ?c2 ?c3 ?c4 ?c5; (case kA => exact rfl); (case kF => exact rfl); (case kK => assumption); (case k1 => k_asm); (case k2 => k_asm); (case k3 => k_asm); (case k5 => k_asm); (case k6 => k_is); (case k7 => k_is); (case k8 => ktr_room); (case k9 => exact BindsTo.of_eq rfl); (case c5 => decide); (case kB => exact locs rfl); (case kb => exact Nat.le_of_ble_eq_true rfl); (case c2 => exact rfl); (case c3 => exact rfl); (case c4 => exact rfl); k_whole)))
local macro_rules | `(tactic| walk_at "exec For Name Call cons nil") => `(tactic| (k_here; (rename Fr _ _ _ _ => lF'); (with_unfolding_all refine' For_invVF lF' ?k1 ?k2 ?_; (case k1 => exact rfl); (case k2 => exact rfl); k_whole)))
local macro_rules | `(tactic| walk_at "pyIter ref") => `(tactic| refine stop_in ?_)
local macro_rules | `(tactic| walk_at "call builtin:len") => `(tactic| (k_here; (with_reducible show wpAny _ _ (call (Value.builtin "len") [Value.ref _]) _ _ _); k_dflt (refine len_strsA (stays_list (Fr.keep (by k_asm)) (by assumption)) (by assumption) (by omega) ?_)))
local macro_rules | `(tactic| walk_at "eval ListComp") => `(tactic| refine stop_in ?_)
theorem split_len (x y : Str) : (Txt.split x y).length ≤ x.length + 2 := by
  unfold Txt.split
  repeat' split
  all_goals first | (simp; done) | (rw [length_partsBetween]; have := StrLaws.occ_length_le x y 0 x.length (x.length + 1); omega)
theorem split_T {prog : Program} {w : World} {A : Around} {E : Value → Shared → Prop} {s : Shared} {h₀ : Heap} {L : Addr} {m : Str → Option Value} {news : List (Addr × Obj)} {x y : Str} {t u : Tok} {Q : Value → Shared → Prop}
    (F : Fr h₀ L s.heap m) (N : News h₀ L s.heap news) (hs : 1 ≤ s.toks) (hy : (y.length == 0) = false) (hsz : x.length ≤ 1048576)
    (h : ∀ D vs h' k, 1 ≤ k → StrsAre vs (Txt.split x y) → (∀ a ∈ Txt.split x y, a.length ≤ x.length) → Fr h₀ L h' m → News h₀ L h' ((D, W.listOf vs.toArray 0) :: news) → (∀ p ∈ news, p.1 < D) → Q (.ref D) { s with heap := h', toks := k }) :
    wpAny (model prog w) A (call (.builtin "str.split") [.str x t, .str y u]) Q E s :=
  wpAny_with_toks hs (splitN1A F N hy (fun l h' k e hv hle _ F' N' hk => by
    rw [e] at hv hle
    exact h _ _ h' k hk hv hle F' N' fun p hp => Heap.lt_size (N p hp).1) (by rw [PySem.sizeLine_eq]; omega))
local macro_rules | `(tactic| walk_at "call builtin:str.split") => `(tactic| (k_here; k_dflt (refine' split_T ?e1 ?e2 ?e3 ?e4 ?e5 ?_; (case e1 => k_asm); (case e2 => k_asm); (case e3 => (show (1 : Nat) ≤ _); (try dsimp only); omega); (case e4 => decide); (case e5 => omega); intro D' vs' h' k' hk' hv' hle' F' N' l1; (try k_lt l1); (try k_sweep))))
local macro_rules | `(tactic| walk_at "eval Name") => `(tactic| (k_here; (with_reducible show wpAny _ _ (eval (Expr.Name _ _) (compEnvC _ _ _ _)) _ _ _); k_dflt (refine ldVarK (by assumption) (by assumption) ?_)))
def itm (p : Str × Str) : Str := p.1 ++ Str.ofString "=\"" ++ undOf p.2 ++ Str.ofString "\""
def more (p : Str × Str) : Str := Str.ofString "\x02 " ++ p.1 ++ Str.ofString "=\"" ++ p.2 ++ Str.ofString "\""
def whl (n s : Str) (r : List (Str × Str)) : Str := r.foldl (fun a p => a ++ more p) (n ++ Str.ofString "=\"" ++ Txt.replace (undOf s) (Str.ofString ",") (Str.ofString "\x02") ++ Str.ofString "\"")
noncomputable def toldOf : List (Str × Str) → List Str
  | [] => []
  | (n, s) :: r => if oddOf s = true then (Txt.split (whl n s r) (Str.ofString ",")).map (fun p => Txt.strip (Txt.replace p (Str.ofString "\x02") (Str.ofString ","))) else itm (n, s) :: toldOf r

local macro_rules | `(tactic| walk_at "subscriptTail Name Name ref int") => `(tactic| (k_here; k_dflt (refine' item_at ?e1 ?e2 ?e3 ?e4 ?e5 ?_; (case e1 => exact stays_list (Fr.keep (by k_asm)) (by assumption)); (case e2 => assumption); (case e5 => assumption); (case e3 => omega); (case e4 => omega); intro t')))
local macro_rules | `(tactic| walk_at "call ref") => `(tactic| (k_here; k_dflt (first
  | (refine' use_B (odd_c _ _ _ ?hx) ?B ?F ?N ?X ?T ?hk ?hd ?hu ?_; (case B => k_asm); (case F => k_asm); (case N => k_asm); (case X => k_asm); (case T => k_asm); (case hk => exact rfl); (case hx => omega); (case hd => exact room_in (by assumption)); (case hu => exact units_in (by assumption)); intro h' tk' htk' F' N'; (try dsimp only at htk'); (try k_sweep))
  | (refine' use_S (und_c _ _ _ ?hx) ?B ?F ?N ?X ?T ?hk ?hd ?hu ?_; (case B => k_asm); (case F => k_asm); (case N => k_asm); (case X => k_asm); (case T => k_asm); (case hk => exact rfl); (case hx => omega); (case hd => exact room_in (by assumption)); (case hu => exact units_in (by assumption)); intro t' h' tk' htk' F' N'; (try dsimp only at htk'); (try k_sweep)))))
local macro_rules | `(tactic| walk_at "binaryOp Add str str") => `(tactic| (k_here; k_dflt (refine' add_T ?e1 ?e2 ?_; (case e1 => (show (1 : Nat) ≤ _); (try dsimp only); omega); (case e2 => (have z1 : (Str.ofString "=\"").length = 2 := by decide +kernel); (have z2 : (Str.ofString "\"").length = 1 := by decide +kernel); (have z3 : (Str.ofString "\x02 ").length = 2 := by decide +kernel); omega); intro t' k' hk' hl')))
theorem replaceC {prog : Program} {w : World} {A : Around} {E : Value → Shared → Prop} {s : Shared} {x y z : Str} {t u v : Tok} {Q : Value → Shared → Prop} (hx : x.length ≤ 1048576) (hz : z.length ≤ 1) (hyz : (y == z) = false) (hs : 1 ≤ s.toks) (hu : 1 ≤ u) (hv : 1 ≤ v) (huv : u ≠ v)
    (hq : ∀ t' k, 1 ≤ k → (Txt.replace x y z).length ≤ 2 * x.length + 1 → Q (.str (Txt.replace x y z) t') { s with toks := k }) :
    wpAny (model prog w) A (call (.builtin "str.replace") [.str x t, .str y u, .str z v]) Q E s :=
  replaceT hx (by omega) hyz hs hu hv huv fun t' k hk => hq t' k hk (by
    have h := rep_len x y z
    have h2 : (x.length + 1) * z.length ≤ (x.length + 1) * 1 := Nat.mul_le_mul_left _ hz
    omega)
local macro_rules | `(tactic| walk_at "call builtin:str.replace") => `(tactic| ((with_reducible show wpAny _ _ (call (Value.builtin "str.replace") [Value.str _ _, Value.str _ _, Value.str _ _]) _ _ _); refine replaceC ?hx ?hz ?hyz ?hs ?hu ?hv ?huv ?_; (case hx => omega); (case hz => decide); (case hyz => decide); (case hs => (show (1 : Nat) ≤ _); (try dsimp only); omega); (case hu => (show (1 : Nat) ≤ _); omega); (case hv => (show (1 : Nat) ≤ _); omega); (case huv => (show @Ne Nat _ _); omega); intro t' k' hk' hr'))
def TInv (R a1 a2 : Addr) (ps : List (Str × Str)) (i : Nat) (m' : Str → Option Value) (news' : List (Addr × Obj)) : Prop :=
  ∃ us n, StrsAre us ((ps.take i).map itm) ∧ toldOf ps = (ps.take i).map itm ++ toldOf (ps.drop i) ∧ news' = [(R, W.listOf us.toArray n)] ∧ m' (Str.ofString "items") = some (.ref R) ∧ m' (Str.ofString "names") = some (.ref a1) ∧ m' (Str.ofString "spelled") = some (.ref a2)
theorem map_three {m₁ : Str → Option Value} {v a b c : Value} {x : Str} (h1 : m₁ (Str.ofString "items") = some a) (h2 : m₁ (Str.ofString "names") = some b) (h3 : m₁ (Str.ofString "spelled") = some c) :
    (fun y => if y = x then some v else m₁ y) = (fun y => if y = x then some v else if y = Str.ofString "items" then some a else if y = Str.ofString "names" then some b else if y = Str.ofString "spelled" then some c else m₁ y) := by
  funext y
  split
  · rfl
  · (repeat' split) <;> first | rfl | (rename_i e; rw [e]; assumption)
theorem map_three' {m₁ : Str → Option Value} {a b c : Value} (h1 : m₁ (Str.ofString "items") = some a) (h2 : m₁ (Str.ofString "names") = some b) (h3 : m₁ (Str.ofString "spelled") = some c) :
    m₁ = (fun y => if y = Str.ofString "items" then some a else if y = Str.ofString "names" then some b else if y = Str.ofString "spelled" then some c else m₁ y) := by
  funext y
  (repeat' split) <;> first | rfl | (rename_i e; rw [e]; assumption)
def WInv (R a1 a2 : Addr) (nw : List (Addr × Obj)) (w0 : Str) (rest : List (Str × Str)) (j : Nat) (m' : Str → Option Value) (news' : List (Addr × Obj)) : Prop :=
  ∃ wh tw, news' = nw ∧ wh = (rest.take j).foldl (fun a p => a ++ more p) w0 ∧ m' (Str.ofString "whole") = some (.str wh tw) ∧ m' (Str.ofString "items") = some (.ref R) ∧ m' (Str.ofString "names") = some (.ref a1) ∧ m' (Str.ofString "spelled") = some (.ref a2)
theorem map_fT1 {m₁ : Str → Option Value} {v a b c d : Value} {x : Str} (h0 : m₁ (Str.ofString "whole") = some d) (h1 : m₁ (Str.ofString "items") = some a) (h2 : m₁ (Str.ofString "names") = some b) (h3 : m₁ (Str.ofString "spelled") = some c) :
    (fun y => if y = x then some v else m₁ y) = (fun y => if y = x then some v else if y = Str.ofString "whole" then some d else if y = Str.ofString "items" then some a else if y = Str.ofString "names" then some b else if y = Str.ofString "spelled" then some c else m₁ y) := by
  funext y
  split
  · rfl
  · (repeat' split) <;> first | rfl | (rename_i e; rw [e]; assumption)
theorem map_fT2 {m₁ : Str → Option Value} {a b c d : Value} (h0 : m₁ (Str.ofString "whole") = some d) (h1 : m₁ (Str.ofString "items") = some a) (h2 : m₁ (Str.ofString "names") = some b) (h3 : m₁ (Str.ofString "spelled") = some c) :
    m₁ = (fun y => if y = Str.ofString "whole" then some d else if y = Str.ofString "items" then some a else if y = Str.ofString "names" then some b else if y = Str.ofString "spelled" then some c else m₁ y) := by
  funext y
  (repeat' split) <;> first | rfl | (rename_i e; rw [e]; assumption)
theorem more_len {p : Str × Str} (h1 : p.1.length ≤ 20) (h2 : p.2.length ≤ 1000) : (more p).length ≤ 1025 := by
  have z1 : (Str.ofString "=\"").length = 2 := by decide +kernel
  have z2 : (Str.ofString "\"").length = 1 := by decide +kernel
  have z3 : (Str.ofString "\x02 ").length = 2 := by decide +kernel
  unfold more
  simp only [Str.length_append]
  omega
theorem fold_len : ∀ (rest : List (Str × Str)) (w0 : Str), (∀ p ∈ rest, p.1.length ≤ 20 ∧ p.2.length ≤ 1000) → (rest.foldl (fun a p => a ++ more p) w0).length ≤ w0.length + rest.length * 1025
  | [], w0, _ => by simp
  | p :: r, w0, h => by
    have h1 := fold_len r (w0 ++ more p) fun q hq => h q (List.mem_cons_of_mem _ hq)
    have h2 := more_len (h p List.mem_cons_self).1 (h p List.mem_cons_self).2
    simp only [List.foldl_cons, List.length_cons]
    rw [Str.length_append] at h1
    omega
theorem rep_comma {x : Str} {b : Nat} (hx : x.length ≤ b) : (Txt.replace x (Str.ofString ",") (Str.ofString "\x02")).length ≤ b + (b + 1) := by
  have h := rep_len x (Str.ofString ",") (Str.ofString "\x02")
  have z : (Str.ofString "\x02").length = 1 := by decide +kernel
  rw [z] at h
  omega
theorem w0_len {n s : Str} (hn : n.length ≤ 20) (hs : (undOf s).length ≤ 400000) : (n ++ Str.ofString "=\"" ++ Txt.replace (undOf s) (Str.ofString ",") (Str.ofString "\x02") ++ Str.ofString "\"").length ≤ 801000 := by
  have z1 : (Str.ofString "=\"").length = 2 := by decide +kernel
  have z2 : (Str.ofString "\"").length = 1 := by decide +kernel
  have := rep_comma hs
  simp only [Str.length_append]
  omega
theorem und_len {x : Str} (hx : x.length ≤ 1000) : (undOf x).length ≤ 400000 := Nat.le_trans (rep_le (by decide) (rep_le (by decide) (rep_le (by decide) hx))) (by decide)
theorem told_c (w : World) (a1 a2 : Addr) (vs1 vs2 : List Value) (ns ss : List Str) (h1 : StrsAre vs1 ns) (h2 : StrsAre vs2 ss) (hl : ns.length = ss.length) (hn : ns.length ≤ 20) (hnl : ∀ y ∈ ns, y.length ≤ 20) (hsl : ∀ y ∈ ss, y.length ≤ 1000) :
    PClaim2 w 83 [.ref a1, .ref a2] (fun h => h.IsList a1 vs1.toArray ∧ h.IsList a2 vs2.toArray) (IsL (toldOf (ns.zip ss))) := by
  intro p loose mean mg mb dp un gd cn cs a ccd cl outer A₀ base h₀ L m s Q E B F X T hk hpre hd hu hret
  obtain ⟨hp1, hp2⟩ := hpre
  refine wpAny_with_toks (Nat.le_refl _) (wpAny_call ?_)
  walk_at "mine enter"
  intro L' h' tk htk0 F' N' B' X' T'
  (try dsimp only); (try k_fold)
  k_steps
  refine stop_out ?_
  refine for_range rfl (by assumption) (small_one (by omega) (by omega) (by omega) (by omega)) (rangeSize_nat _ _) (by assumption) (by assumption) (TInv _ a1 a2 (ns.zip ss)) ⟨[], 0, .nil, rfl, rfl, rfl, rfl, rfl⟩ ?_ ?_
  · rintro i tk1 m₁ _ I oI h tk' hi ⟨us, n, hus, htold, rfl, hm1, hm2, hm3⟩ off F₁ N₁ g
    have hin : i < ns.length := by omega
    obtain ⟨nn, hnn⟩ : ∃ q, ns[i]? = some q := ⟨_, List.getElem?_eq_getElem hin⟩
    obtain ⟨sn, hsn⟩ : ∃ q, ss[i]? = some q := ⟨_, List.getElem?_eq_getElem (by omega)⟩
    have hnl' := hnl nn (List.mem_of_getElem? hnn)
    have hsl' := hsl sn (List.mem_of_getElem? hsn)
    have hul' := und_len hsl'
    rw [map_three hm1 hm2 hm3] at F₁
    replace F₁ : Fr s.heap L' h _ := F₁
    replace N₁ : News s.heap L' h _ := N₁
    have hul : us.length ≤ 20 := by
      have h1 := hus.len_eq
      rw [List.length_map, List.length_take, List.length_zip] at h1
      omega
    have hIR := off _ List.mem_cons_self
    replace hIR := neN hIR
    have hall : ∀ q ∈ ns.zip ss, q.1.length ≤ 20 ∧ q.2.length ≤ 1000 := fun q hq => ⟨hnl _ (List.of_mem_zip hq).1, hsl _ (List.of_mem_zip hq).2⟩
    have hps : (ns.zip ss)[i]? = some (nn, sn) := by rw [List.getElem?_zip_eq_some]; exact ⟨hnn, hsn⟩
    have hdrop : (ns.zip ss).drop i = (nn, sn) :: (ns.zip ss).drop (i + 1) := by
      have hl := (List.getElem?_eq_some_iff.mp hps)
      obtain ⟨hl, he⟩ := hl
      rw [List.drop_eq_getElem_cons hl, he]
    (try dsimp only); (try k_fold)
    k_steps
    · refine stop_out ?_
      refine for_range rfl (by assumption) (small_one (by omega) (by omega) (by omega) (by omega)) (rangeSize_nat _ _) (by assumption) (by assumption) (WInv _ a1 a2 [(I, oI), (_, W.listOf us.toArray n)] _ ((ns.zip ss).drop (i + 1))) ⟨_, _, rfl, rfl, rfl, rfl, rfl, rfl⟩ ?_ ?_
      · rintro j tk2 m₂ _ I2 oI2 hh tk3 hj ⟨wh, tw, rfl, hwh, hm1', hm2', hm3', hm4'⟩ off2 F₂ N₂ g2
        have hin2 : i + 1 + j < ns.length := by omega
        obtain ⟨n2, hn2⟩ : ∃ q, ns[i + 1 + j]? = some q := ⟨_, List.getElem?_eq_getElem hin2⟩
        obtain ⟨s2, hs2⟩ : ∃ q, ss[i + 1 + j]? = some q := ⟨_, List.getElem?_eq_getElem (by omega)⟩
        have hnl2 := hnl n2 (List.mem_of_getElem? hn2)
        have hsl2 := hsl s2 (List.mem_of_getElem? hs2)
        have hwl : wh.length ≤ 1000000 := by
          have h1 := fold_len (((ns.zip ss).drop (i + 1)).take j) (nn ++ Str.ofString "=\"" ++ Txt.replace (undOf sn) (Str.ofString ",") (Str.ofString "\x02") ++ Str.ofString "\"") fun q hq => hall q (List.mem_of_mem_drop (List.mem_of_mem_take hq))
          rw [← hwh, List.length_take, List.length_drop, List.length_zip] at h1
          have h2 := w0_len hnl' hul'
          have h3 : (min j (min ns.length ss.length - (i + 1))) * 1025 ≤ 20 * 1025 := Nat.mul_le_mul_right _ (by omega)
          omega
        rw [map_fT1 hm1' hm2' hm3' hm4'] at F₂
        replace F₂ : Fr s.heap L' hh _ := F₂
        replace N₂ : News s.heap L' hh _ := N₂
        clear hnn hsn
        (try dsimp only); (try k_fold)
        k_steps
        refine TurnEnd.on (.inl rfl) (by assumption) (by assumption) (by lcg_sub) off2 ⟨_, _, rfl, ?_, rfl, rfl, rfl, rfl⟩
        have hps2 : ((ns.zip ss).drop (i + 1))[j]? = some (n2, s2) := by rw [List.getElem?_drop, List.getElem?_zip_eq_some]; exact ⟨hn2, hs2⟩
        rw [List.take_add_one, hps2, List.foldl_append, ← hwh]
        rfl
      · rintro hh tk2 m₂ _ F₂ N₂ ⟨wh, tw, rfl, hwh, hm1', hm2', hm3', hm4'⟩
        rw [map_fT2 hm1' hm2' hm3' hm4'] at F₂
        replace F₂ : Fr s.heap L' hh _ := F₂
        replace N₂ : News s.heap L' hh _ := N₂
        have hall2 : List.take (↑ns.length - (0 + (↑i : Int) + 1)).toNat (List.drop (i + 1) (ns.zip ss)) = List.drop (i + 1) (ns.zip ss) := List.take_of_length_le (by rw [List.length_drop, List.length_zip]; omega)
        rw [hall2] at hwh
        have hwl : wh.length ≤ 1000000 := by
          have h1 := fold_len ((ns.zip ss).drop (i + 1)) (nn ++ Str.ofString "=\"" ++ Txt.replace (undOf sn) (Str.ofString ",") (Str.ofString "\x02") ++ Str.ofString "\"") fun q hq => hall q (List.mem_of_mem_drop hq)
          rw [← hwh, List.length_drop, List.length_zip] at h1
          have h2 := w0_len hnl' hul'
          have h3 : ((min ns.length ss.length - (i + 1))) * 1025 ≤ 20 * 1025 := Nat.mul_le_mul_right _ (by omega)
          omega
        have hres : toldOf (ns.zip ss) = (List.take i (ns.zip ss)).map itm ++ (Txt.split wh (Str.ofString ",")).map (fun p => Txt.strip (Txt.replace p (Str.ofString "\x02") (Str.ofString ","))) := by
          rw [htold, hdrop]
          show _ ++ (if oddOf sn = true then _ else _) = _
          rw [if_pos (by assumption), hwh]
          rfl
        have hspl := split_len wh (Str.ofString ",")
        (try dsimp only); (try k_fold)
        k_steps
        refine stop_out ?_
        k_dflt (refine ListComp_T (g := fun p => Txt.strip (Txt.replace p (Str.ofString "\x02") (Str.ofString ","))) (by with_unfolding_all rfl) (by decide) (by rfl) (by decide) (by rfl) ?_)
        k_steps
        refine ⟨_, _, _, rfl, rfl, News.isList (by assumption) (by k_mem), (by assumption), (by omega), (by assumption), ?_, ?_⟩
        · intro C y ty s₃ m₃ E' hy hns hm htk3
          have hyl : y.length ≤ 1000000 := by
            rename_i hle' _ _ _
            exact Nat.le_trans (hle' y hy) hwl
          (try dsimp only); (try k_fold)
          k_steps
          all_goals exact ⟨s₃.heap, _, rfl, fun _ _ e => e⟩
        · intro D zs h3 tk3 hD hlD hzs hst
          (rename Fr _ _ _ _ => F3)
          (rename News _ _ _ _ => N3)
          have F4 := F3.keeps hst
          have N4 := N3.grown hst
          have hzl : zs.length ≤ 1000002 := by rw [hzs.len_eq, List.length_map]; omega
          refine add_lists F4 N4 (News.isList N4 (by k_mem)) hlD ?_ (by rw [PySem.sizeLine_eq]; omega)
          intro h5 F5 N5
          intro htk5
          refine hret _ _ _ htk5 F5.keep ?_
          rw [hres]
          exact ⟨_, us ++ zs, rfl, hus.append' hzs, News.fresh N5 List.mem_cons_self, News.isList N5 List.mem_cons_self⟩
    · have hsnoc : (List.take (i + 1) (ns.zip ss)).map itm = (List.take i (ns.zip ss)).map itm ++ [itm (nn, sn)] := by rw [List.take_add_one, hps, List.map_append]; rfl
      refine TurnEnd.on (.inl rfl) (by assumption) (by assumption) (fun p hp => hp) (fun p hp => by rw [List.mem_singleton.mp hp]; exact hIR) ⟨us ++ [_], n + 1, ?_, ?_, by rw [List.push_toArray], rfl, rfl, rfl⟩
      · rw [hsnoc]; exact kct_snoc hus
      · rw [hsnoc, htold, hdrop, List.append_assoc]
        congr 1
        show (if oddOf sn = true then _ else _) = _
        rw [if_neg (by simp only [Bool.not_eq_true]; assumption)]
        rfl
  · rintro h tk' m' _ F₁ N₁ ⟨us, n, hus, htold, rfl, hm1, hm2, hm3⟩
    rw [map_three' hm1 hm2 hm3] at F₁
    replace F₁ : Fr s.heap L' h _ := F₁
    replace N₁ : News s.heap L' h _ := N₁
    have e1 : List.take (↑ns.length - (0 : Int)).toNat (ns.zip ss) = ns.zip ss := List.take_of_length_le (by rw [List.length_zip]; omega)
    have e2 : List.drop (↑ns.length - (0 : Int)).toNat (ns.zip ss) = [] := List.drop_of_length_le (by rw [List.length_zip]; omega)
    rw [e1, e2] at htold
    rw [e1] at hus
    have e3 : toldOf (ns.zip ss) = (ns.zip ss).map itm := by rw [htold]; exact List.append_nil _
    (try dsimp only); (try k_fold)
    k_steps
    refine hret _ _ _ (by assumption) (Fr.keep (by assumption)) ?_
    rw [e3]
    exact ⟨_, us, rfl, hus, News.fresh N₁ List.mem_cons_self, News.isList N₁ List.mem_cons_self⟩
end Mine
end
section
open PySem PySem.W PyProof.Rows
namespace Mine
set_option maxRecDepth 100000
set_option maxHeartbeats 8000000
theorem fillLA : (fun (_ : OpenLaw) (_ : Params → Frag) => True) PySem.Challenge.rw_pg0113_01 Mine.hd.heap_39 := by k_fill; w_top off; trivial
noncomputable def lawBody : List Stmt := match PySem.Challenge.pw_pg0113_01.main.body with
  | [_, _, _, _, _, _, _, _, _, _, _, _, _, _, .FunctionDef _ _ b _ _ _ _ _ _ _] => b
  | _ => []
noncomputable def lawScope : Scope := match PySem.Challenge.pw_pg0113_01.main.body with
  | [_, _, _, _, _, _, _, _, _, _, _, _, _, _, .FunctionDef _ _ _ _ _ _ sc _ _ _] => sc
  | _ => { kind := .function, names := [], isGenerator := false, isCoroutine := false, more := [] }
noncomputable abbrev lawE (L fa : Addr) (cdv : Value) : Env := envOfC (Str.ofString "law") lawScope L fa cdv
noncomputable abbrev lawA (L fa : Addr) (cdv : Value) : Around := callerA.deeper (lawE L fa cdv)
def numsOf (ns : List Int) : List Int := if ns = [] then [1] else ns.take 5
def NumAt (h₀ : Heap) (L : Addr) (m : Str → Option Value) (cells : List (Addr × Obj)) (nums : List Int) (s : Shared) (v : Value) (s' : Shared) : Prop :=
  ∃ a1 vs1 n1 h' tk', v = .ref a1 ∧ s' = { s with heap := h', toks := tk' } ∧ Fr h₀ L h' m ∧ News h₀ L h' ((a1, W.listOf (List.toArray vs1) n1) :: cells) ∧ L + 5 < a1 ∧ IntsAre vs1 nums
def escA (hand : Int) : Addr := if hand = 0 then 40 else if hand = 1 then 47 else 54
theorem nums_len (ns : List Int) : 1 ≤ (numsOf ns).length ∧ (numsOf ns).length ≤ 5 := by
  unfold numsOf
  split
  · exact ⟨Nat.le_refl _, by decide⟩
  · rename_i h9
    rw [List.length_take]
    have : ns.length ≠ 0 := fun h => h9 (List.eq_nil_of_length_eq_zero h)
    omega
theorem item_esc {prog : Program} {w : World} {A : Around} {E : Value → Shared → Prop} {s : Shared} {value slice : PySem.Expr} {l : Addr} {k : Int} {u : Tok} {Q : Value → Shared → Prop}
    (hl : s.heap.IsList l #[.ref 40, .ref 47, .ref 54]) (hk : 0 ≤ k ∧ k < 3) (h : Q (.ref (escA k)) s)
    (hs : subscripted slice false (.ref l) (.int k u) = operate [.ref l, .int k u] (getItem (.ref l) (.int k u)) := by with_unfolding_all rfl) :
    wpAny (model prog w) A (subscriptTail value slice (.ref l) (.int k u)) Q E s := by
  refine tail_any hl.typeIs slot_list_getitem.lookup (wpAny_getItem_list hl hk.1 (by omega) ?_ h) hs
  obtain rfl | rfl | rfl : k = 0 ∨ k = 1 ∨ k = 2 := by omega
  all_goals rfl
local macro_rules | `(tactic| walk_at "subscriptTail") => `(tactic| (k_here; (with_reducible show wpAny _ _ (subscriptTail (Expr.List _ _) _ (Value.ref _) (Value.int _ _)) _ _ _); k_dflt (refine item_esc (News.isList (by k_asm) (by k_mem)) (by assumption) ?_)))
local macro_rules | `(tactic| walk_at "execs cons") => `(tactic| ((with_reducible show wpAny _ _ (execs (Stmt.Assign [Expr.Name (Str.ofString "values") _] _ _ :: _) _) _ _ _); refine stop_in ?_))
theorem stA {w : World} {p : Program} {loose : List Str} {mean : ExcName → Option Value} {mg mb : Str → Option Value} {h₀ : Heap} {L fa a : Addr} {cdv : Value} {s : Shared} {Q : Flow → Shared → Prop} {E : Value → Shared → Prop} {vs : List Value} {ns : List Int} {o1 o2 o3 o4 o5 : Obj}
    (B : Below callerA h₀ [] h₀) (X : (Mine.hd.heap_39 w.params).In h₀) (T : Top p loose mean mg mb h₀)
    (F : Fr h₀ L s.heap (fun y => if y = Str.ofString "script" then some (.ref a) else none))
    (N : News h₀ L s.heap [(L + 5, o5), (L + 4, o4), (L + 3, o3), (L + 2, o2), (L + 1, o1)])
    (c1 : o1.data = .cell none) (c2 : o2.data = .cell none)
    (hl : h₀.IsList a vs.toArray) (hi : IntsAre vs ns) (hn : ns.length ≤ 63)
    (h : ∀ a1 vs1 n1 th o1' o2' h' tk' m', Fr h₀ L h' m' → m' (Str.ofString "numbers") = some (.ref a1) → News h₀ L h' [(a1, W.listOf (List.toArray vs1) n1), (L + 5, o5), (L + 4, o4), (L + 3, o3), (L + 2, o2'), (L + 1, o1')] →
      @LT.lt Nat _ (L + 5) a1 → IntsAre vs1 (numsOf ns) → o1'.data = .cell (some (.int ((numsOf ns).sum.fmod 3) th)) → o2'.data = .cell (some (.ref (escA ((numsOf ns).sum.fmod 3)))) →
      wpAny (model prog0 w) (lawA L fa cdv) (execs (lawBody.drop 3) (lawE L fa cdv)) Q E { s with heap := h', toks := tk' }) :
    wpAny (model prog0 w) (lawA L fa cdv) (execs lawBody (lawE L fa cdv)) Q E s := by
  unfold lawA lawE lawBody lawScope PySem.Challenge.pw_pg0113_01
  dsimp only
  iterate 2 walk1
  refine wpAny_mono (Q := NumAt h₀ L (fun y => if y = Str.ofString "script" then some (.ref a) else none) [(L + 5, o5), (L + 4, o4), (L + 3, o3), (L + 2, o2), (L + 1, o1)] (numsOf ns) s) ?_ (fun v s' hv => ?_) (fun _ _ e => e)
  · k_steps
    · refine ⟨_, _, _, _, _, rfl, rfl, by assumption, by assumption, ltN (by omega), ?_⟩
      have hne : ns ≠ [] := by rintro rfl; rename_i h9; exact absurd h9 (by decide)
      unfold numsOf
      rw [if_neg hne]
      assumption
    · have hne : ns = [] := by
        rename_i h9 _ _ _ _ _
        cases ns with
        | nil => rfl
        | cons x r => simp at h9
      refine ⟨_, [_], _, _, _, rfl, rfl, by assumption, KStt.news_of (by assumption) (by lcg_sub), ltN (by omega), ?_⟩
      unfold numsOf
      rw [if_pos hne]
      exact .cons _ _ .nil
  obtain ⟨a1, vs1, n1, h1, tk1, rfl, rfl, F1, N1, hlt, hi1⟩ := hv
  have hnl := nums_len ns
  generalize numsOf ns = nums at hi1 hnl h
  replace hlt := ltN hlt
  have h3 : 0 ≤ nums.sum.fmod 3 ∧ nums.sum.fmod 3 < 3 := ⟨Int.fmod_nonneg_of_pos _ (by decide), Int.fmod_lt_of_pos _ (by decide)⟩
  clear F N hl hi hn
  k_steps
  exact h a1 vs1 n1 _ _ _ _ _ _ (by assumption) rfl (KStt.news_of (by assumption) (by lcg_sub)) hlt hi1 (by assumption) (by assumption)
end Mine
end
section
open PySem PySem.W PyProof.Rows
namespace Mine
set_option maxRecDepth 100000
set_option maxHeartbeats 8000000
theorem fillLB : (fun (_ : OpenLaw) (_ : Params → Frag) => True) PySem.Challenge.rw_pg0113_01 Mine.hd.heap_39 := by k_fill; w_top off; trivial
local macro_rules | `(tactic| walk_at "eval ListComp") => `(tactic| refine stop_in ?_)
local macro_rules | `(tactic| walk_at "CompSrc") => `(tactic| refine stop_in ?_)
local macro_rules | `(tactic| walk_at "CompEnd") => `(tactic| (k_dflt (refine ce_text (by assumption) (by assumption) (by lcg_sub) (by assumption) (by lcg_src) ?_)))
local macro_rules | `(tactic| walk_at "call ref") => `(tactic| (k_here; k_dflt (
    (refine' use_S (val_c _ _ _) ?B ?F ?N ?X ?T ?hk ?hd ?hu ?_; (case B => k_asm); (case F => k_asm); (case N => k_asm); (case X => k_asm); (case T => k_asm); (case hk => exact rfl); (case hd => exact Nat.le_of_ble_eq_true rfl); (case hu => exact Nat.le_of_ble_eq_true rfl); intro t' h' tk' htk' F' N'; (try dsimp only at htk'); (try k_sweep)))))
theorem add_LL {prog : Program} {w : World} {A : Around} {E : Value → Shared → Prop} {s : Shared} {h₀ : Heap} {L : Addr} {m : Str → Option Value} {news : List (Addr × Obj)} {l b : Addr} {vs ws : List Value} {Q : Value → Shared → Prop}
    (F : Fr h₀ L s.heap m) (N : News h₀ L s.heap news) (hl : s.heap.IsList l vs.toArray) (hb : s.heap.IsList b ws.toArray) (hsz : vs.length + ws.length ≤ sizeLine)
    (h : ∀ D h', Fr h₀ L h' m → News h₀ L h' ((D, W.listOf (vs ++ ws).toArray 0) :: news) → (∀ p ∈ news, p.1 < D) → Q (.ref D) { s with heap := h' }) :
    wpAny (model prog w) A (binaryOp .Add (.ref l) (.ref b)) Q E s :=
  add_lists F N hl hb (fun h' F' N' => h _ h' F' N' fun p hp => Heap.lt_size (N p hp).1) hsz
local macro_rules | `(tactic| walk_at "binaryOp Add ref ref") => `(tactic| (k_here; k_dflt (refine' add_LL ?F ?N ?l ?b ?z ?_; (case F => k_asm); (case N => k_asm); (case l => exact News.isList (by k_asm) (by k_mem)); (case b => exact News.isList (by k_asm) (by k_mem)); (case z => (rw [PySem.sizeLine_eq]; simp only [List.length_append, List.length_cons, List.length_nil]; omega)); intro D' h' F' N' l1; (try k_lt l1); (try k_sweep))))
def valsOf (nums : List Int) : List Str := [Str.ofString "x,\"\\\\"] ++ nums.map valOf ++ [Str.ofString "p', q=<&r"]
section stop1
local macro_rules | `(tactic| walk_at "execs cons") => `(tactic| ((with_reducible show wpAny _ _ (execs (Stmt.Assign [Expr.Name (Str.ofString "span") _] _ _ :: _) _) _ _ _); refine stop_in ?_))
theorem stB1 {w : World} {p : Program} {loose : List Str} {mean : ExcName → Option Value} {mg mb : Str → Option Value} {h₀ : Heap} {L fa a1 : Addr} {cdv : Value} {s : Shared} {Q : Flow → Shared → Prop} {E : Value → Shared → Prop} {vs1 : List Value} {nums : List Int} {n1 : Nat} {o1 o2 o3 o4 o5 : Obj} {m : Str → Option Value}
    (B : Below callerA h₀ [] h₀) (X : (Mine.hd.heap_39 w.params).In h₀) (T : Top p loose mean mg mb h₀)
    (F : Fr h₀ L s.heap m) (hm : m (Str.ofString "numbers") = some (.ref a1))
    (N : News h₀ L s.heap [(a1, W.listOf (List.toArray vs1) n1), (L + 5, o5), (L + 4, o4), (L + 3, o3), (L + 2, o2), (L + 1, o1)])
    (hlt : @LT.lt Nat _ (L + 5) a1) (hi : IntsAre vs1 nums) (hn : nums.length ≤ 5)
    (c3 : o3.data = .cell none)
    (h : ∀ v1 vvs n1 o3' h' tk' m', Fr h₀ L h' m' → News h₀ L h' [(v1, W.listOf (List.toArray vvs) n1), (L + 5, o5), (L + 4, o4), (L + 3, o3'), (L + 2, o2), (L + 1, o1)] →
      @LT.lt Nat _ (L + 5) v1 → StrsAre vvs (valsOf nums) → o3'.data = .cell (some (.ref v1)) →
      wpAny (model prog0 w) (lawA L fa cdv) (execs (lawBody.drop 4) (lawE L fa cdv)) Q E { s with heap := h', toks := tk' }) :
    wpAny (model prog0 w) (lawA L fa cdv) (execs (lawBody.drop 3) (lawE L fa cdv)) Q E s := by
  rw [show m = (fun y => if y = Str.ofString "numbers" then some (.ref a1) else m y) from funext fun y => by split; (rename_i e; rw [e]; exact hm); rfl] at F
  unfold lawA lawE lawBody lawScope PySem.Challenge.pw_pg0113_01
  dsimp only [List.drop]
  k_steps
  refine stop_out ?_
  k_dflt (refine LCg.ListComp_U (F₀ := by k_asm) (by with_unfolding_all rfl) (by decide) (by rfl) (by decide) (by rfl) ?_)
  k_steps
  refine stop_out ?_
  k_dflt (refine LCg.CompSrc.ledger (by rfl) (by k_asm) (by k_asm) (by k_mem) (by rw [PySem.sizeLine_eq, List.size_toArray, IntsAre.length hi]; omega) ?_)
  intro g'
  refine ct_rest (ks := nums) (fun n v => ∃ t, v = .int n t) valOf (by rw [List.size_toArray]; exact (IntsAre.length hi).symm) (fun i v _ hv => ?_) ?_ ?_
  · obtain ⟨k, t, e, hk⟩ := IntsAre.at hi i v (by simpa using hv)
    exact ⟨k, hk, t, e⟩
  · rintro n v I' oI' C' oC' D' m₂ ys' h' tk' E' hc' ⟨t', rfl⟩ hC' hx' F' N' off' ne'
    have off0 := off'
    (try (simp only [LCg.Off3, and_true] at off'))
    (try dsimp only); (try k_fold)
    k_steps
  · intro ys hys
    have hyl : ys.length ≤ 5 := by rw [hys.len_eq, List.length_map]; exact hn
    k_steps
    refine h _ _ _ _ _ _ _ (by assumption) (KStt.news_of (by assumption) (by lcg_sub)) (by omega) ?_ (by assumption)
    unfold valsOf
    exact (StrsAre.append' (StrsAre.append' (.cons _ _ .nil) hys) (.cons _ _ .nil))
end stop1
end Mine
end
section
open PySem PySem.W PyProof.Rows
namespace Mine
set_option maxRecDepth 100000
set_option maxHeartbeats 8000000
local macro_rules | `(tactic| walk_at "idle") => `(tactic| skip)
theorem fillLC : (fun (_ : OpenLaw) (_ : Params → Frag) => True) PySem.Challenge.rw_pg0113_01 Mine.hd.heap_39 := by k_fill; w_top off; trivial
abbrev rngO (b : Int) (t u v : Tok) : Obj := { cls := .type "range", dict := none, data := .fields #[.int 0 t, .int b u, .int 1 v], slots := #[] }
theorem range_L {prog : Program} {w : World} {A : Around} {E : Value → Shared → Prop} {s : Shared} {h₀ : Heap} {L : Addr} {m : Str → Option Value} {news : List (Addr × Obj)} {n : Int} {t : Tok} {Q : Value → Shared → Prop}
    (F : Fr h₀ L s.heap m) (N : News h₀ L s.heap news)
    (h : ∀ r h' tk t₁ u₁ v₁, Fr h₀ L h' m → News h₀ L h' ((r, rngO n t₁ u₁ v₁) :: news) → (∀ p ∈ news, p.1 < r) → Q (.ref r) { s with heap := h', toks := tk }) :
    wpAny (model prog w) A (call (.type "range") [.int n t]) Q E s :=
  range1_rows F N fun h' tk t₁ u₁ v₁ hr F' N' hk => h _ h' tk t₁ u₁ v₁ F' (fun p hp => by
    rcases List.mem_cons.mp hp with rfl | hp
    · exact ⟨hr, Nat.ne_of_gt F.ns.lt, next_is_new F⟩
    · exact N' p hp) fun p hp => Heap.lt_size (N p hp).1
local macro_rules | `(tactic| walk_at "call type:range") => `(tactic| (k_here; k_dflt (refine' range_L ?F ?N ?_; (case F => k_asm); (case N => k_asm); intro r' h' tk' t' u' v' F' N' l1; (try k_lt l1); (try k_sweep))))
local macro_rules | `(tactic| walk_at "call builtin:len") => `(tactic| (k_here; (with_reducible show wpAny _ _ (call (Value.builtin "len") [Value.ref _]) _ _ _); k_dflt (refine len_strsA (News.isList (by k_asm) (by k_mem)) (by assumption) (by omega) ?_)))
local macro_rules | `(tactic| walk_at "eval ListComp") => `(tactic| refine stop_in ?_)
local macro_rules | `(tactic| walk_at "CompSrc") => `(tactic| refine stop_in ?_)
local macro_rules | `(tactic| walk_at "CompEnd") => `(tactic| (k_dflt (refine ce_text (by assumption) (by assumption) (by lcg_sub) (by assumption) (by lcg_src) ?_)))
def nameAt (i : Nat) : Str := Txt.item (Str.ofString "abcdefg") (0 + (i : Int))
section stop2
local macro_rules | `(tactic| walk_at "execs cons") => `(tactic| ((with_reducible show wpAny _ _ (execs (Stmt.Assign [Expr.Name (Str.ofString "spelled") _] _ _ :: _) _) _ _ _); refine stop_in ?_))
theorem stB2 {w : World} {p : Program} {loose : List Str} {mean : ExcName → Option Value} {mg mb : Str → Option Value} {h₀ : Heap} {L fa v1 : Addr} {cdv : Value} {s : Shared} {Q : Flow → Shared → Prop} {E : Value → Shared → Prop} {vvs : List Value} {vals : List Str} {n1 : Nat} {o1 o2 o3 o4 o5 : Obj} {m : Str → Option Value}
    (B : Below callerA h₀ [] h₀) (X : (Mine.hd.heap_39 w.params).In h₀) (T : Top p loose mean mg mb h₀)
    (F : Fr h₀ L s.heap m)
    (N : News h₀ L s.heap [(v1, W.listOf (List.toArray vvs) n1), (L + 5, o5), (L + 4, o4), (L + 3, o3), (L + 2, o2), (L + 1, o1)])
    (hlt : @LT.lt Nat _ (L + 5) v1) (hv : StrsAre vvs vals) (hn : vals.length ≤ 7)
    (c3 : o3.data = .cell (some (.ref v1))) (c4 : o4.data = .cell none)
    (h : ∀ r1 t u v nm nvs nn o4' h' tk' m', Fr h₀ L h' m' → m' (Str.ofString "span") = some (.ref r1) → News h₀ L h' [(nm, W.listOf (List.toArray nvs) nn), (r1, rngO (vals.length : Int) t u v), (v1, W.listOf (List.toArray vvs) n1), (L + 5, o5), (L + 4, o4'), (L + 3, o3), (L + 2, o2), (L + 1, o1)] →
      @LT.lt Nat _ v1 r1 → ((@Ne Nat r1 nm) ∧ (@Ne Nat v1 nm) ∧ (@Ne Nat (L + 5) nm) ∧ (@Ne Nat (L + 4) nm) ∧ (@Ne Nat (L + 3) nm) ∧ (@Ne Nat (L + 2) nm) ∧ (@Ne Nat (L + 1) nm)) → StrsAre nvs ((List.range vals.length).map nameAt) → o4'.data = .cell (some (.ref nm)) →
      wpAny (model prog0 w) (lawA L fa cdv) (execs (lawBody.drop 6) (lawE L fa cdv)) Q E { s with heap := h', toks := tk' }) :
    wpAny (model prog0 w) (lawA L fa cdv) (execs (lawBody.drop 4) (lawE L fa cdv)) Q E s := by
  unfold lawA lawE lawBody lawScope PySem.Challenge.pw_pg0113_01
  dsimp only [List.drop]
  k_steps
  refine stop_out ?_
  k_dflt (refine LCg.ListComp_U (F₀ := by k_asm) (by with_unfolding_all rfl) (by decide) (by rfl) (by decide) (by rfl) ?_)
  k_steps
  refine stop_out ?_
  k_dflt (refine LCg.CompSrc.range (by rfl) (by k_asm) (by k_asm) (News.get (by k_asm) (by k_mem)) (small_one (by omega) (by omega) (by omega) (by omega)) (rangeSize_nat _ _) (by rw [PySem.sizeLine_eq]; omega) ?_)
  intro g'
  refine ct_rest (ks := List.range vals.length) (fun i v => i < vals.length ∧ ∃ t, v = .int (0 + (i : Int)) t) nameAt (by rw [List.length_range]; omega) (fun i v hi hv => ?_) ?_ ?_
  · obtain ⟨t, e⟩ := hv
    have : i < vals.length := by omega
    exact ⟨i, by rw [List.getElem?_range this], this, t, e⟩
  · rintro i v I' oI' C' oC' D' m₂ ys' h' tk' E' hc' ⟨hil, t', rfl⟩ hC' hx' F' N' off' ne'
    have off0 := off'
    (try (simp only [LCg.Off3, and_true] at off'))
    (try dsimp only); (try k_fold)
    k_steps
  · intro ys hys
    k_steps
    refine stop_out ?_
    exact h _ _ _ _ _ ys _ _ _ _ _ (by assumption) rfl (KStt.news_of (by assumption) (by lcg_sub)) (by omega) (by assumption) hys (by assumption)
end stop2
end Mine
end
section
open PySem PySem.W PyProof.Rows
namespace Mine
set_option maxRecDepth 100000
set_option maxHeartbeats 8000000
theorem fillLD : (fun (_ : OpenLaw) (_ : Params → Frag) => True) PySem.Challenge.rw_pg0113_01 Mine.hd.heap_39 := by k_fill; w_top off; trivial
local macro_rules | `(tactic| walk_at "eval ListComp") => `(tactic| refine stop_in ?_)
local macro_rules | `(tactic| walk_at "CompSrc") => `(tactic| refine stop_in ?_)
local macro_rules | `(tactic| walk_at "CompEnd") => `(tactic| (k_dflt (refine ce_text (by assumption) (by assumption) (by lcg_sub) (by assumption) (by lcg_src) ?_)))
local macro_rules | `(tactic| walk_at "call ref") => `(tactic| (k_here; k_dflt (
    (refine' use_S (spl_c _ _ _ _ _ ?hh ?hx) ?B ?F ?N ?X ?T ?hk ?hd ?hu ?_; (case B => k_asm); (case F => k_asm); (case N => k_asm); (case X => k_asm); (case T => k_asm); (case hk => exact rfl); (case hd => exact Nat.le_of_ble_eq_true rfl); (case hu => exact Nat.le_of_ble_eq_true rfl); (case hh => assumption); (case hx => omega); intro t' h' tk' htk' F' N'; (try dsimp only at htk'); (try k_sweep)))))
section stop3
local macro_rules | `(tactic| walk_at "execs cons") => `(tactic| ((with_reducible show wpAny _ _ (execs (Stmt.Assign [Expr.Name (Str.ofString "bare") _] _ _ :: _) _) _ _ _); refine stop_in ?_))
theorem stB3 {w : World} {p : Program} {loose : List Str} {mean : ExcName → Option Value} {mg mb : Str → Option Value} {h₀ : Heap} {L fa v1 r1 nm : Addr} {cdv : Value} {s : Shared} {Q : Flow → Shared → Prop} {E : Value → Shared → Prop} {vvs nvs : List Value} {vals : List Str} {n1 nn : Nat} {t u v : Tok} {hand : Int} {th : Tok} {o1 o2 o3 o4 o5 : Obj} {m : Str → Option Value}
    (B : Below callerA h₀ [] h₀) (X : (Mine.hd.heap_39 w.params).In h₀) (T : Top p loose mean mg mb h₀)
    (F : Fr h₀ L s.heap m) (hm : m (Str.ofString "span") = some (.ref r1))
    (N : News h₀ L s.heap [(nm, W.listOf (List.toArray nvs) nn), (r1, rngO (vals.length : Int) t u v), (v1, W.listOf (List.toArray vvs) n1), (L + 5, o5), (L + 4, o4), (L + 3, o3), (L + 2, o2), (L + 1, o1)])
    (hlt : @LT.lt Nat _ (L + 5) v1) (hlr : @LT.lt Nat _ v1 r1)
    (hne : (@Ne Nat r1 nm) ∧ (@Ne Nat v1 nm) ∧ (@Ne Nat (L + 5) nm) ∧ (@Ne Nat (L + 4) nm) ∧ (@Ne Nat (L + 3) nm) ∧ (@Ne Nat (L + 2) nm) ∧ (@Ne Nat (L + 1) nm))
    (hv : StrsAre vvs vals) (hn : vals.length ≤ 7) (hvl : ∀ y ∈ vals, y.length ≤ 20) (hh : hand = 0 ∨ hand = 1 ∨ hand = 2)
    (c1 : o1.data = .cell (some (.int hand th))) (c3 : o3.data = .cell (some (.ref v1))) (c5 : o5.data = .cell none)
    (h : ∀ sp svs ns o5' h' tk' m', Fr h₀ L h' m' → m' (Str.ofString "span") = some (.ref r1) → News h₀ L h' [(sp, W.listOf (List.toArray svs) ns), (nm, W.listOf (List.toArray nvs) nn), (r1, rngO (vals.length : Int) t u v), (v1, W.listOf (List.toArray vvs) n1), (L + 5, o5'), (L + 4, o4), (L + 3, o3), (L + 2, o2), (L + 1, o1)] →
      StrsAre svs (vals.map (splOf hand)) → o5'.data = .cell (some (.ref sp)) →
      wpAny (model prog0 w) (lawA L fa cdv) (execs (lawBody.drop 7) (lawE L fa cdv)) Q E { s with heap := h', toks := tk' }) :
    wpAny (model prog0 w) (lawA L fa cdv) (execs (lawBody.drop 6) (lawE L fa cdv)) Q E s := by
  rw [show m = (fun y => if y = Str.ofString "span" then some (.ref r1) else m y) from funext fun y => by split; (rename_i e; rw [e]; exact hm); rfl] at F
  unfold lawA lawE lawBody lawScope PySem.Challenge.pw_pg0113_01
  dsimp only [List.drop]
  k_steps
  refine stop_out ?_
  k_dflt (refine LCg.ListComp_U (F₀ := by k_asm) (by with_unfolding_all rfl) (by decide) (by rfl) (by decide) (by rfl) ?_)
  k_steps
  refine stop_out ?_
  k_dflt (refine LCg.CompSrc.ledger (by rfl) (by k_asm) (by k_asm) (by k_mem) (by rw [PySem.sizeLine_eq, List.size_toArray, hv.len_eq]; omega) ?_)
  intro g'
  refine ct_rest (ks := vals) (fun y v => y.length ≤ 20 ∧ ∃ t, v = .str y t) (splOf hand) (by rw [List.size_toArray]; exact hv.len_eq.symm) (fun i v _ hiv => ?_) ?_ ?_
  · obtain ⟨y, t, e, hy⟩ := hv.item i v (by simpa using hiv)
    exact ⟨y, hy, hvl y (List.mem_of_getElem? hy), t, e⟩
  · rintro y v I' oI' C' oC' D' m₂ ys' h' tk' E' hc' ⟨hyl, t', rfl⟩ hC' hx' F' N' off' ne'
    have off0 := off'
    (try (simp only [LCg.Off3, and_true] at off'))
    (try dsimp only); (try k_fold)
    k_steps
  · intro ys hys
    k_steps
    refine stop_out ?_
    exact h _ ys _ _ _ _ _ (by assumption) rfl (KStt.news_of (by assumption) (by lcg_sub)) hys (by assumption)
end stop3
end Mine
end
section
open PySem PySem.W PyProof.Rows Builtin Builtin.Str
namespace Mine
set_option maxRecDepth 100000
/-- each sign c becomes z -/
def sub1 (c : Nat) (z : List Nat) (l : List Nat) : List Nat := l.flatMap fun k => if k = c then z else [k]
theorem sub1_app (c : Nat) (z a b : List Nat) : sub1 c z (a ++ b) = sub1 c z a ++ sub1 c z b := by unfold sub1; rw [List.flatMap_append]
theorem sub1_free (c : Nat) (z : List Nat) : ∀ l : List Nat, c ∉ l → sub1 c z l = l
  | [], _ => rfl
  | k :: r, h => by
    have h1 : ¬ k = c := fun e => h (e ▸ List.mem_cons_self ..)
    have h2 : c ∉ r := fun m => h (List.mem_cons_of_mem _ m)
    have := sub1_free c z r h2
    unfold sub1 at *
    rw [List.flatMap_cons, if_neg h1, this]
    rfl
theorem sub1_join (c : Nat) (z : Str) : ∀ parts : List Str, (∀ p ∈ parts, c ∉ p.cps.toList) → sub1 c z.cps.toList (Str.join ⟨#[c]⟩ parts).cps.toList = (Str.join z parts).cps.toList
  | [], _ => rfl
  | [p], h => sub1_free c _ _ (h p (List.mem_singleton.mpr rfl))
  | p :: q :: r, h => by
    have ih := sub1_join c z (q :: r) fun a ha => h a (List.mem_cons_of_mem _ ha)
    show sub1 c z.cps.toList (p ++ ⟨#[c]⟩ ++ Str.join ⟨#[c]⟩ (q :: r)).cps.toList = (p ++ z ++ Str.join z (q :: r)).cps.toList
    simp only [Str.cps_append, Array.toList_append]
    rw [sub1_app, sub1_app, ih, sub1_free c _ _ (h p (List.mem_cons_self ..))]
    have e : sub1 c z.cps.toList [c] = z.cps.toList := by simp [sub1]
    show p.cps.toList ++ sub1 c z.cps.toList [c] ++ _ = _
    rw [e]
theorem rep1 (x z : Str) (c : Nat) : (Txt.replace x ⟨#[c]⟩ z).cps.toList = sub1 c z.cps.toList x.cps.toList := by
  rw [StrLaws.replace_one, ← sub1_join c z _ (StrLaws.split_free x c), StrLaws.join_split]
theorem strExt {a b : Str} (h : a.cps.toList = b.cps.toList) : a = b := by
  obtain ⟨⟨a⟩⟩ := a; obtain ⟨⟨b⟩⟩ := b
  simp only at h
  rw [h]
/-- join with nothing between: the signs one behind the other -/
theorem join_nil : ∀ ps : List Str, (Txt.join (Str.ofString "") ps).cps.toList = ps.flatMap (·.cps.toList) := by
  intro ps
  unfold Txt.join
  rw [StrLaws.glued_eq_join]
  have he : (Str.ofString "") = Str.empty := by decide +kernel
  rw [he]
  induction ps with
  | nil => rfl
  | cons p r ih =>
    cases r with
    | nil => simp [Str.join]
    | cons q t =>
      show (p ++ Str.empty ++ Str.join Str.empty (q :: t)).cps.toList = _
      rw [Str.append_empty, Str.cps_append, Array.toList_append, ih]
      simp
def spL (hand : Int) (l : List Nat) : List Nat := l.flatMap fun c => (spC hand c).cps.toList
theorem spl_list (hand : Int) (x : Str) : (splOf hand x).cps.toList = spL hand x.cps.toList := by
  unfold splOf spL
  rw [join_nil, List.flatMap_map]
theorem sub1_cons (c : Nat) (z : List Nat) (k : Nat) (r : List Nat) : sub1 c z (k :: r) = (if k = c then z else [k]) ++ sub1 c z r := by
  unfold sub1; rw [List.flatMap_cons]
theorem spL_cons (hand : Int) (k : Nat) (r : List Nat) : spL hand (k :: r) = (spC hand k).cps.toList ++ spL hand r := by
  unfold spL; rw [List.flatMap_cons]
def Calm (l : List Nat) : Prop := ∀ c ∈ l, c ≠ 9 ∧ c ≠ 10 ∧ c ≠ 13
theorem spC_0 (c : Nat) : (spC 0 c).cps.toList = if c = 38 then [38, 97, 109, 112, 59] else if c = 60 then [38, 108, 116, 59] else if c = 62 then [38, 103, 116, 59] else if c = 34 then [38, 113, 117, 111, 116, 59] else [c] := by
  unfold spC
  (repeat' split) <;> first | rfl | decide +kernel | omega
theorem spC_1 (c : Nat) : (spC 1 c).cps.toList = if c = 38 then [38, 97, 109, 112, 59] else if c = 62 then [38, 103, 116, 59] else if c = 34 then [38, 113, 117, 111, 116, 59] else [c] := by
  unfold spC
  (repeat' split) <;> first | rfl | (subst_vars; decide +kernel) | omega
theorem spC_2 (c : Nat) : (spC 2 c).cps.toList = if c = 38 then [38, 97, 109, 112, 59] else if c = 60 then [38, 108, 116, 59] else if c = 34 then [38, 113, 117, 111, 116, 59] else [c] := by
  unfold spC
  (repeat' split) <;> first | rfl | (subst_vars; decide +kernel) | omega
theorem htm_list : ∀ l : List Nat, sub1 34 [38, 113, 117, 111, 116, 59] (sub1 62 [38, 103, 116, 59] (sub1 38 [38, 97, 109, 112, 59] l)) = spL 1 l
  | [] => rfl
  | k :: r => by
    have ih := htm_list r
    rw [spL_cons, ← ih, spC_1, sub1_cons, sub1_app, sub1_app]
    congr 1
    (repeat' split) <;> simp_all [sub1]
theorem esc_list : ∀ l : List Nat, Calm l → sub1 9 [38, 35, 48, 57, 59] (sub1 10 [38, 35, 49, 48, 59] (sub1 13 [38, 35, 49, 51, 59] (sub1 34 [38, 113, 117, 111, 116, 59] (sub1 62 [38, 103, 116, 59] (sub1 60 [38, 108, 116, 59] (sub1 38 [38, 97, 109, 112, 59] l)))))) = spL 0 l
  | [], _ => rfl
  | k :: r, h => by
    have ih := esc_list r fun c hc => h c (List.mem_cons_of_mem _ hc)
    obtain ⟨h1, h2, h3⟩ := h k List.mem_cons_self
    rw [spL_cons, ← ih, spC_0, sub1_cons, sub1_app, sub1_app, sub1_app, sub1_app, sub1_app, sub1_app]
    congr 1
    (repeat' split) <;> simp_all [sub1]
theorem c14_list : ∀ l : List Nat, Calm l → sub1 13 [38, 35, 120, 68, 59] (sub1 10 [38, 35, 120, 65, 59] (sub1 9 [38, 35, 120, 57, 59] (sub1 34 [38, 113, 117, 111, 116, 59] (sub1 60 [38, 108, 116, 59] (sub1 38 [38, 97, 109, 112, 59] l))))) = spL 2 l
  | [], _ => rfl
  | k :: r, h => by
    have ih := c14_list r fun c hc => h c (List.mem_cons_of_mem _ hc)
    obtain ⟨h1, h2, h3⟩ := h k List.mem_cons_self
    rw [spL_cons, ← ih, spC_2, sub1_cons, sub1_app, sub1_app, sub1_app, sub1_app, sub1_app]
    congr 1
    (repeat' split) <;> simp_all [sub1]
theorem rep1' {x y z : Str} {c : Nat} {l : List Nat} (hy : y = ⟨#[c]⟩) (hz : z.cps.toList = l) : (Txt.replace x y z).cps.toList = sub1 c l x.cps.toList := by
  subst hy; subst hz; exact rep1 x z c
theorem htm_eq (x : Str) : htmOf x = splOf 1 x := by
  apply strExt
  rw [spl_list, ← htm_list]
  unfold htmOf
  rw [rep1' (c := 34) (l := [38, 113, 117, 111, 116, 59]) (by decide +kernel) (by decide +kernel), rep1' (c := 62) (l := [38, 103, 116, 59]) (by decide +kernel) (by decide +kernel), rep1' (c := 38) (l := [38, 97, 109, 112, 59]) (by decide +kernel) (by decide +kernel)]
theorem esc_eq (x : Str) (hx : Calm x.cps.toList) : escOf x = splOf 0 x := by
  apply strExt
  rw [spl_list, ← esc_list _ hx]
  unfold escOf
  rw [rep1' (c := 9) (l := [38, 35, 48, 57, 59]) (by decide +kernel) (by decide +kernel), rep1' (c := 10) (l := [38, 35, 49, 48, 59]) (by decide +kernel) (by decide +kernel), rep1' (c := 13) (l := [38, 35, 49, 51, 59]) (by decide +kernel) (by decide +kernel),
    rep1' (c := 34) (l := [38, 113, 117, 111, 116, 59]) (by decide +kernel) (by decide +kernel), rep1' (c := 62) (l := [38, 103, 116, 59]) (by decide +kernel) (by decide +kernel), rep1' (c := 60) (l := [38, 108, 116, 59]) (by decide +kernel) (by decide +kernel), rep1' (c := 38) (l := [38, 97, 109, 112, 59]) (by decide +kernel) (by decide +kernel)]
theorem c14_eq (x : Str) (hx : Calm x.cps.toList) : c14Of x = splOf 2 x := by
  apply strExt
  rw [spl_list, ← c14_list _ hx]
  unfold c14Of
  rw [rep1' (c := 13) (l := [38, 35, 120, 68, 59]) (by decide +kernel) (by decide +kernel), rep1' (c := 10) (l := [38, 35, 120, 65, 59]) (by decide +kernel) (by decide +kernel), rep1' (c := 9) (l := [38, 35, 120, 57, 59]) (by decide +kernel) (by decide +kernel),
    rep1' (c := 34) (l := [38, 113, 117, 111, 116, 59]) (by decide +kernel) (by decide +kernel), rep1' (c := 60) (l := [38, 108, 116, 59]) (by decide +kernel) (by decide +kernel), rep1' (c := 38) (l := [38, 97, 109, 112, 59]) (by decide +kernel) (by decide +kernel)]
end Mine
end
section
open PySem PySem.W PyProof.Rows
namespace Mine
set_option maxRecDepth 100000
set_option maxHeartbeats 8000000
theorem fillLE : (fun (_ : OpenLaw) (_ : Params → Frag) => True) PySem.Challenge.rw_pg0113_01 Mine.hd.heap_39 := by k_fill; w_top off; trivial
/-- the escape that hand picks -/
theorem escH_c (w : World) (hand : Int) (x : Str) (t : Tok) (hh : hand = 0 ∨ hand = 1 ∨ hand = 2) (hx : x.length ≤ 20) (hc : Calm x.cps.toList) : PClaim w (escA hand) [.str x t] NoPre (IsS (splOf hand x)) := by
  rcases hh with rfl | rfl | rfl
  · rw [← esc_eq x hc]; exact esc_c w x t hx
  · rw [← htm_eq x]; exact htm_c w x t hx
  · rw [← c14_eq x hc]; exact c14_c w x t hx
theorem spl_len (hand : Int) (x : Str) : (splOf hand x).length ≤ 6 * x.length := by
  have e : (splOf hand x).length = (spL hand x.cps.toList).length := by rw [← spl_list]; simp [Str.length]
  have e2 : x.length = x.cps.toList.length := by simp [Str.length]
  rw [e, e2]
  generalize x.cps.toList = l
  induction l with
  | nil => exact Nat.zero_le _
  | cons k r ih =>
    rw [spL_cons, List.length_append, List.length_cons]
    have h1 := spC_len hand k
    have h2 : (spC hand k).cps.toList.length = (spC hand k).length := by simp [Str.length]
    omega
def attr (n s : Str) : Str := n ++ Str.ofString "=\"" ++ s ++ Str.ofString "\""
theorem attr_len {i : Nat} {hand : Int} {y : Str} (hy : y.length ≤ 20) : (attr (nameAt i) (splOf hand y)).length ≤ 124 := by
  have z1 : (Str.ofString "=\"").length = 2 := by decide +kernel
  have z2 : (Str.ofString "\"").length = 1 := by decide +kernel
  have h1 := spl_len hand y
  have h2 : (nameAt i).length = 1 := rfl
  unfold attr
  simp only [Str.length_append]
  omega
theorem sum_fit {b : Nat} : ∀ {ps : List Str}, (∀ p ∈ ps, p.length ≤ b) → (ps.map (·.length)).sum ≤ ps.length * b
  | [], _ => by simp
  | p :: r, h => by
    have h1 := sum_fit (ps := r) fun q hq => h q (List.mem_cons_of_mem _ hq)
    have h2 := h p List.mem_cons_self
    simp only [List.map_cons, List.sum_cons, List.length_cons, Nat.add_mul, Nat.one_mul]
    omega
theorem join_fit {n : Nat} {g : Nat → Str} {sep : Str} (hn : n ≤ 7) (hg : ∀ i, i < n → (g i).length ≤ 124) (hsep : sep.length ≤ 20 := by decide) : ((List.map g (List.range n)).map (·.length)).sum + (List.map g (List.range n)).length * sep.length ≤ 16777216 := by
  have h1 := sum_fit (b := 124) (ps := (List.range n).map g) fun p hp => by
    obtain ⟨i, hi, rfl⟩ := List.mem_map.mp hp
    exact hg i (List.mem_range.mp hi)
  rw [List.length_map, List.length_range] at h1 ⊢
  have h2 : n * sep.length ≤ 7 * 20 := Nat.mul_le_mul hn hsep
  have h3 : n * 124 ≤ 7 * 124 := Nat.mul_le_mul_right _ hn
  omega
local macro_rules | `(tactic| walk_at "eval ListComp") => `(tactic| refine stop_in ?_)
local macro_rules | `(tactic| walk_at "CompSrc") => `(tactic| refine stop_in ?_)
local macro_rules | `(tactic| walk_at "CompEnd") => `(tactic| (k_dflt (refine ce_text (by assumption) (by assumption) (by lcg_sub) (by assumption) (by lcg_src) ?_)))
local macro_rules | `(tactic| walk_at "subscriptTail Name Name ref int") => `(tactic| (k_here; k_dflt (refine' item_at ?e1 ?e2 ?e3 ?e4 ?e5 ?_; (case e1 => exact News.isList (by k_asm) (by k_mem)); (case e2 => assumption); (case e5 => assumption); (case e3 => omega); (case e4 => omega); intro t')))
local macro_rules | `(tactic| walk_at "binaryOp Add str str") => `(tactic| (k_here; k_dflt (refine' add_T ?e1 ?e2 ?_; (case e1 => (show (1 : Nat) ≤ _); (try dsimp only); omega); (case e2 => (have z1 : (Str.ofString "=\"").length = 2 := by decide +kernel); (have z2 : (Str.ofString "\"").length = 1 := by decide +kernel); omega); intro t' k' hk' hl')))
local macro_rules | `(tactic| walk_at "call ref") => `(tactic| (k_here; k_dflt (
    (refine' use_S ?C ?B ?F ?N ?X ?T ?hk ?hd ?hu ?_; (case C => ((rename (∀ _, PClaim _ _ _ _ _) => hC9); exact hC9 _)); (case B => k_asm); (case F => k_asm); (case N => k_asm); (case X => k_asm); (case T => k_asm); (case hk => exact rfl); (case hd => exact Nat.le_of_ble_eq_true rfl); (case hu => exact Nat.le_of_ble_eq_true rfl); intro t' h' tk' htk' F' N'; (try dsimp only at htk'); (try k_sweep)))))
section stop4
local macro_rules | `(tactic| walk_at "execs cons") => `(tactic| ((with_reducible show wpAny _ _ (execs (Stmt.If _ _ _ _ :: _) _) _ _ _); refine stop_in ?_))
theorem stC {w : World} {p : Program} {loose : List Str} {mean : ExcName → Option Value} {mg mb : Str → Option Value} {h₀ : Heap} {L fa v1 r1 nm sp : Addr} {cdv : Value} {s : Shared} {Q : Flow → Shared → Prop} {E : Value → Shared → Prop} {vvs nvs svs : List Value} {vals : List Str} {n1 nn ns : Nat} {t u v : Tok} {hand : Int} {th : Tok} {o1 o2 o3 o4 o5 : Obj} {m : Str → Option Value}
    (B : Below callerA h₀ [] h₀) (X : (Mine.hd.heap_39 w.params).In h₀) (T : Top p loose mean mg mb h₀)
    (F : Fr h₀ L s.heap m) (hm : m (Str.ofString "span") = some (.ref r1))
    (N : News h₀ L s.heap [(sp, W.listOf (List.toArray svs) ns), (nm, W.listOf (List.toArray nvs) nn), (r1, rngO (vals.length : Int) t u v), (v1, W.listOf (List.toArray vvs) n1), (L + 5, o5), (L + 4, o4), (L + 3, o3), (L + 2, o2), (L + 1, o1)])
    (hv : StrsAre vvs vals) (hnv : StrsAre nvs ((List.range vals.length).map nameAt)) (hn : vals.length ≤ 7) (hvl : ∀ y ∈ vals, y.length ≤ 20) (hcl : ∀ y ∈ vals, Calm y.cps.toList) (hh : hand = 0 ∨ hand = 1 ∨ hand = 2)
    (c2 : o2.data = .cell (some (.ref (escA hand)))) (c3 : o3.data = .cell (some (.ref v1))) (c4 : o4.data = .cell (some (.ref nm)))
    (h : ∀ tb h' tk' m', Fr h₀ L h' m' → m' (Str.ofString "span") = some (.ref r1) → m' (Str.ofString "bare") = some (.str (Txt.join (Str.ofString ", ") ((List.range vals.length).map fun i => attr (nameAt i) (splOf hand (vals.getD i Str.empty)))) tb) →
      News h₀ L h' [(sp, W.listOf (List.toArray svs) ns), (nm, W.listOf (List.toArray nvs) nn), (r1, rngO (vals.length : Int) t u v), (v1, W.listOf (List.toArray vvs) n1), (L + 5, o5), (L + 4, o4), (L + 3, o3), (L + 2, o2), (L + 1, o1)] →
      wpAny (model prog0 w) (lawA L fa cdv) (execs (lawBody.drop 8) (lawE L fa cdv)) Q E { s with heap := h', toks := tk' }) :
    wpAny (model prog0 w) (lawA L fa cdv) (execs (lawBody.drop 7) (lawE L fa cdv)) Q E s := by
  rw [show m = (fun y => if y = Str.ofString "span" then some (.ref r1) else m y) from funext fun y => by split; (rename_i e; rw [e]; exact hm); rfl] at F
  unfold lawA lawE lawBody lawScope PySem.Challenge.pw_pg0113_01
  dsimp only [List.drop]
  k_steps
  refine stop_out ?_
  k_dflt (refine LCg.ListComp_U (F₀ := by k_asm) (by with_unfolding_all rfl) (by decide) (by rfl) (by decide) (by rfl) ?_)
  k_steps
  refine stop_out ?_
  k_dflt (refine LCg.CompSrc.range (by rfl) (by k_asm) (by k_asm) (News.get (by k_asm) (by k_mem)) (small_one (by omega) (by omega) (by omega) (by omega)) (rangeSize_nat _ _) (by rw [PySem.sizeLine_eq]; omega) ?_)
  intro g'
  refine ct_rest (ks := List.range vals.length) (fun i v => i < vals.length ∧ ∃ t, v = .int (0 + (i : Int)) t) (fun i => attr (nameAt i) (splOf hand (vals.getD i Str.empty))) (by rw [List.length_range]; omega) (fun i v hi hv => ?_) ?_ ?_
  · obtain ⟨t, e⟩ := hv
    have : i < vals.length := by omega
    exact ⟨i, by rw [List.getElem?_range this], this, t, e⟩
  · rintro i v I' oI' C' oC' D' m₂ ys' h' tk' E' hc' ⟨hil, t', rfl⟩ hC' hx' F' N' off' ne'
    have off0 := off'
    (try (simp only [LCg.Off3, and_true] at off'))
    have hni : ((List.range vals.length).map nameAt)[i]? = some (nameAt i) := by rw [List.getElem?_map, List.getElem?_range hil]; rfl
    obtain ⟨y, hyi⟩ : ∃ y, vals[i]? = some y := ⟨_, List.getElem?_eq_getElem hil⟩
    have hyl := hvl y (List.mem_of_getElem? hyi)
    have hcon := fun tt => escH_c w hand y tt hh hyl (hcl y (List.mem_of_getElem? hyi))
    have hsl := spl_len hand y
    have hnl : (nameAt i).length = 1 := rfl
    have hgd : vals.getD i Str.empty = y := by rw [List.getD_eq_getElem?_getD, hyi]; rfl
    simp only [hgd]
    rcases hh with rfl | rfl | rfl
    all_goals ((try dsimp only); (try k_fold))
    · replace c2 : o2.data = .cell (some (.ref 40)) := c2
      replace hcon : ∀ tt, PClaim w 40 [.str y tt] NoPre (IsS (splOf 0 y)) := hcon
      k_steps
    · replace c2 : o2.data = .cell (some (.ref 47)) := c2
      replace hcon : ∀ tt, PClaim w 47 [.str y tt] NoPre (IsS (splOf 1 y)) := hcon
      k_steps
    · replace c2 : o2.data = .cell (some (.ref 54)) := c2
      replace hcon : ∀ tt, PClaim w 54 [.str y tt] NoPre (IsS (splOf 2 y)) := hcon
      k_steps
  · intro ys hys
    have hw := join_fit (sep := Str.ofString ", ") hn (fun i hi => attr_len (i := i) (hand := hand) (y := vals.getD i Str.empty) (by
      rw [List.getD_eq_getElem?_getD, List.getElem?_eq_getElem hi]
      exact hvl _ (List.getElem_mem hi)))
    k_steps
    refine join_list (News.isList (by assumption) (by k_mem)) (by simpa using hys) hw ?_
    intro t' k'
    k_steps
    refine stop_out ?_
    exact h _ _ _ _ (by assumption) rfl rfl (KStt.news_of (by assumption) (by lcg_sub))
end stop4
end Mine
end
section
open PySem PySem.W PyProof.Rows
namespace Mine
set_option maxRecDepth 100000
set_option maxHeartbeats 8000000
theorem fillLF : (fun (_ : OpenLaw) (_ : Params → Frag) => True) PySem.Challenge.rw_pg0113_01 Mine.hd.heap_39 := by k_fill; w_top off; trivial
section
variable {w : World} {f : Addr} {vs : List Value} {p : Program} {loose : List Str} {mean : ExcName → Option Value} {mg mb : Str → Option Value} {dp un : Nat} {gd : Option (List Code)} {cn : Str} {cs : Scope} {a : Addr} {ccd : Value} {cl : List (Str × Addr)} {outer : List Env}
    {A₀ : Around} {base h₀ : Heap} {L : Addr} {m : Str → Option Value} {s : Shared} {Q E : Value → Shared → Prop} {news : List (Addr × Obj)}
theorem news_made {h h' : Heap} {D : Addr} {o : Obj} (F : Fr h₀ L h m) (N : News h₀ L h news) (hst : Stays h h') (hD : h.get? D = none) (ho : h'.get? D = some o) : News h₀ L h' ((D, o) :: news) := fun q hq => by
  rcases List.mem_cons.mp hq with rfl | hq
  · refine ⟨ho, fun e => ?_, ?_⟩
    · have hl := F.ns
      obtain ⟨oL, _, _, e2, _⟩ := hl
      have : h.get? L = some oL := e2
      rw [show D = L from e, this] at hD
      cases hD
    · show h₀.get? D = none
      cases e : h₀.get? D with
      | none => rfl
      | some o2 => rw [F.keep _ _ e] at hD; cases hD
  · exact ⟨hst _ _ (N q hq).1, (N q hq).2⟩
theorem use_L {xs : List Str} {Pre : Heap → Prop} (C : PClaim w f vs Pre (IsL xs)) (hp : Pre s.heap) (B : Below A₀ base outer h₀) (F : Fr h₀ L s.heap m) (N : News h₀ L s.heap news) (K : (Mine.hd.heap_39 w.params).In h₀) (T : Top p loose mean mg mb h₀) (hk : cs.kind = .function) (hd : dp + 8 < recursionLimit) (hu : un + 256 < cLine)
    (h : ∀ D o ws n h' tk', s.toks ≤ tk' → StrsAre ws xs → o.cls = .type "list" → o.data = .seq ws.toArray n → Fr h₀ L h' m → News h₀ L h' ((D, o) :: news) → Q (.ref D) { s with heap := h', toks := tk' }) : wpAny (model prog0 w) (ktrTop dp un gd cn cs L a ccd cl outer) (call (.ref f) vs) Q E s :=
  C p loose mean mg mb dp un gd cn cs a ccd cl outer A₀ base h₀ L m s Q E B F K T hk hp hd hu fun v h' tk' htk hst hres => by
    obtain ⟨D, ws, rfl, hws, hD, o, ho, hc, n, hn⟩ := hres
    exact h D o ws n h' tk' htk hws hc hn (F.keeps hst) (news_made F N hst hD ho)
theorem use_L2 {xs : List Str} {Pre : Heap → Prop} (C : PClaim2 w f vs Pre (IsL xs)) (hp : Pre s.heap) (B : Below A₀ base outer h₀) (F : Fr h₀ L s.heap m) (N : News h₀ L s.heap news) (K : (Mine.hd.heap_39 w.params).In h₀) (T : Top p loose mean mg mb h₀) (hk : cs.kind = .function) (hd : dp + 40 < recursionLimit) (hu : un + 1024 < cLine)
    (h : ∀ D o ws n h' tk', s.toks ≤ tk' → StrsAre ws xs → o.cls = .type "list" → o.data = .seq ws.toArray n → Fr h₀ L h' m → News h₀ L h' ((D, o) :: news) → Q (.ref D) { s with heap := h', toks := tk' }) : wpAny (model prog0 w) (ktrTop dp un gd cn cs L a ccd cl outer) (call (.ref f) vs) Q E s :=
  C p loose mean mg mb dp un gd cn cs a ccd cl outer A₀ base h₀ L m s Q E B F K T hk hp hd hu fun v h' tk' htk hst hres => by
    obtain ⟨D, ws, rfl, hws, hD, o, ho, hc, n, hn⟩ := hres
    exact h D o ws n h' tk' htk hws hc hn (F.keeps hst) (news_made F N hst hD ho)
end
theorem dat_strs {nw : List (Addr × Obj)} : ∀ {vs : List Value} {xs : List Str}, StrsAre vs xs → DatAll nw vs (xs.map Dat.str)
  | _, _, .nil => .nil
  | _, _, .cons y t r => .cons (.str y t) (dat_strs r)
open Classical in
theorem ne_same {prog : Program} {w : World} {A : Around} {E : Value → Shared → Prop} {s : Shared} {h₀ : Heap} {L a b : Addr} {news : List (Addr × Obj)} {oa ob : Obj} {vs ws : List Value} {ka kb : Nat} {xs : List Str} {Q : Value → Shared → Prop}
    (N : News h₀ L s.heap news) (ma : (a, oa) ∈ news) (ca : oa.cls = .type "list") (da : oa.data = .seq vs.toArray ka) (Da : StrsAre vs xs)
    (mb : (b, ob) ∈ news) (cb : ob.cls = .type "list") (db : ob.data = .seq ws.toArray kb) (Db : StrsAre ws xs) (hx : ∀ x ∈ xs, PyData.strOk x = true)
    (hu : A.units + 64 < cLine) (h : Q (.bool false) s) : wpAny (model prog w) A (compareOp .NotEq (.ref a) (.ref b)) Q E s := by
  have hk : ∀ d ∈ xs.map Dat.str, kqdOk 8 d = true := fun d hd => by
    obtain ⟨x, hx', rfl⟩ := List.mem_map.mp hd
    exact hx x hx'
  refine kqd_ne (n₁ := []) (n₂ := []) N ma ca da (dat_strs Da) (fun _ h => nomatch h) mb cb db (dat_strs Db) (fun _ h => nomatch h) hk hk hu ?_
  rw [decide_eq_true rfl]
  exact h
section stopF
local macro_rules | `(tactic| walk_at "call ref") => `(tactic| (k_here; k_dflt (first
  | (refine' use_L (par_c _ _ _ ?hx) ?hp ?B ?F ?N ?X ?T ?hk ?hd ?hu ?_; (case B => k_asm); (case F => k_asm); (case N => k_asm); (case X => k_asm); (case T => k_asm); (case hk => exact rfl); (case hd => exact Nat.le_of_ble_eq_true rfl); (case hu => exact Nat.le_of_ble_eq_true rfl); (case hp => exact True.intro); (case hx => omega); intro D' o' ws' n' h' tk' htk' hws' hoc' hod' F' N'; (try dsimp only at htk'); (try k_sweep))
  | (refine' use_L2 (told_c _ _ _ _ _ _ _ ?h1 ?h2 ?h3 ?h4 ?h5 ?h6) ?hp ?B ?F ?N ?X ?T ?hk ?hd ?hu ?_; (case B => k_asm); (case F => k_asm); (case N => k_asm); (case X => k_asm); (case T => k_asm); (case hk => exact rfl); (case hd => exact Nat.le_of_ble_eq_true rfl); (case hu => exact Nat.le_of_ble_eq_true rfl); (case hp => exact ⟨News.isList (by k_asm) (by k_mem), News.isList (by k_asm) (by k_mem)⟩); (case h1 => assumption); (case h2 => assumption); (case h3 => assumption); (case h4 => assumption); (case h5 => assumption); (case h6 => assumption); intro D' o' ws' n' h' tk' htk' hws' hoc' hod' F' N'; (try dsimp only at htk'); (try k_sweep)))))
local macro_rules | `(tactic| walk_at "compareOp NotEq ref ref") => `(tactic| (k_here; refine stop_in ?_))
local macro_rules | `(tactic| walk_at "execs cons") => `(tactic| ((with_reducible show wpAny _ _ (execs (Stmt.Assign [Expr.Name (Str.ofString "doubled") _] _ _ :: _) _) _ _ _); refine stop_in ?_))
theorem stC2 {w : World} {p : Program} {loose : List Str} {mean : ExcName → Option Value} {mg mb : Str → Option Value} {h₀ : Heap} {L fa v1 r1 nm sp : Addr} {cdv : Value} {s : Shared} {Q : Flow → Shared → Prop} {E : Value → Shared → Prop} {nvs svs : List Value} {nms spl : List Str} {nn ns : Nat} {tb : Tok} {bare : Str} {o1 o2 o3 o4 o5 ov1 or1 : Obj} {m : Str → Option Value}
    (B : Below callerA h₀ [] h₀) (X : (Mine.hd.heap_39 w.params).In h₀) (T : Top p loose mean mg mb h₀)
    (F : Fr h₀ L s.heap m) (hm : m (Str.ofString "span") = some (.ref r1)) (hm2 : m (Str.ofString "bare") = some (.str bare tb))
    (N : News h₀ L s.heap [(sp, W.listOf (List.toArray svs) ns), (nm, W.listOf (List.toArray nvs) nn), (r1, or1), (v1, ov1), (L + 5, o5), (L + 4, o4), (L + 3, o3), (L + 2, o2), (L + 1, o1)])
    (hnv : StrsAre nvs nms) (hsv : StrsAre svs spl) (hln : nms.length = spl.length) (hn20 : nms.length ≤ 20) (hnl : ∀ y ∈ nms, y.length ≤ 20) (hsl : ∀ y ∈ spl, y.length ≤ 1000) (hbl : bare.length ≤ 10000)
    (c4 : o4.data = .cell (some (.ref nm))) (c5 : o5.data = .cell (some (.ref sp)))
    (hlaw : parOf bare = toldOf (nms.zip spl)) (hok : ∀ x ∈ toldOf (nms.zip spl), PyData.strOk x = true)
    (h : ∀ h' tk' m', Fr h₀ L h' m' → m' (Str.ofString "span") = some (.ref r1) →
      News h₀ L h' [(sp, W.listOf (List.toArray svs) ns), (nm, W.listOf (List.toArray nvs) nn), (r1, or1), (v1, ov1), (L + 5, o5), (L + 4, o4), (L + 3, o3), (L + 2, o2), (L + 1, o1)] →
      wpAny (model prog0 w) (lawA L fa cdv) (execs (lawBody.drop 9) (lawE L fa cdv)) Q E { s with heap := h', toks := tk' }) :
    wpAny (model prog0 w) (lawA L fa cdv) (execs (lawBody.drop 8) (lawE L fa cdv)) Q E s := by
  rw [show m = (fun y => if y = Str.ofString "span" then some (.ref r1) else if y = Str.ofString "bare" then some (.str bare tb) else m y) from funext fun y => by (repeat' split) <;> first | rfl | (rename_i e; rw [e]; assumption)] at F
  unfold lawA lawE lawBody lawScope PySem.Challenge.pw_pg0113_01
  dsimp only [List.drop]
  k_steps
  refine stop_out ?_
  (rename StrsAre _ (parOf bare) => hA)
  rw [hlaw] at hA
  refine ne_same (by k_asm) (by k_mem) (by assumption) (by assumption) hA (by k_mem) (by assumption) (by assumption) (by assumption) hok (Nat.le_of_ble_eq_true rfl) ?_
  k_steps
  refine stop_out ?_
  exact h _ _ _ (by assumption) rfl (KStt.news_of (by assumption) (by lcg_sub))
end stopF
end Mine
end
section
open PySem PySem.W PyProof.Rows
namespace Mine
set_option maxRecDepth 100000
set_option maxHeartbeats 8000000
theorem fillLG : (fun (_ : OpenLaw) (_ : Params → Frag) => True) PySem.Challenge.rw_pg0113_01 Mine.hd.heap_39 := by k_fill; w_top off; trivial
def dbl (y : Str) : Str := Txt.replace y "\\" "\\\\"
theorem dbl_list (y : Str) : (dbl y).cps.toList = sub1 92 [92, 92] y.cps.toList := rep1' (c := 92) (l := [92, 92]) (by decide +kernel) (by decide +kernel)
theorem dbl_len (y : Str) : (dbl y).length ≤ 2 * y.length := by
  have e : (dbl y).length = (sub1 92 [92, 92] y.cps.toList).length := by rw [← dbl_list]; simp [Str.length]
  have e2 : y.length = y.cps.toList.length := by simp [Str.length]
  rw [e, e2]
  generalize y.cps.toList = l
  induction l with
  | nil => exact Nat.zero_le _
  | cons k r ih =>
    rw [sub1_cons, List.length_append, List.length_cons]
    split <;> simp only [List.length_cons, List.length_nil] <;> omega
theorem sub1_mem {l : List Nat} {c : Nat} : ∀ {k : Nat}, k ∈ sub1 92 [92, 92] l → k = 92 ∨ k ∈ l := by
  induction l with
  | nil => intro k hk; exact absurd hk (by simp [sub1])
  | cons a r ih =>
    intro k hk
    rw [sub1_cons] at hk
    rcases List.mem_append.mp hk with h | h
    · split at h
      · left; simpa using h
      · right; rw [List.mem_singleton.mp h]; exact List.mem_cons_self
    · rcases ih h with h | h
      · exact .inl h
      · exact .inr (List.mem_cons_of_mem _ h)
theorem dbl_calm {y : Str} (h : Calm y.cps.toList) : Calm (dbl y).cps.toList := by
  rw [dbl_list]
  intro c hc
  rcases sub1_mem (c := c) hc with rfl | hc
  · decide
  · exact h c hc
local macro_rules | `(tactic| walk_at "eval ListComp") => `(tactic| refine stop_in ?_)
local macro_rules | `(tactic| walk_at "CompSrc") => `(tactic| refine stop_in ?_)
local macro_rules | `(tactic| walk_at "CompEnd") => `(tactic| (k_dflt (refine ce_text (by assumption) (by assumption) (by lcg_sub) (by assumption) (by lcg_src) ?_)))
local macro_rules | `(tactic| walk_at "subscriptTail Name Name ref int") => `(tactic| (k_here; k_dflt (refine' item_at ?e1 ?e2 ?e3 ?e4 ?e5 ?_; (case e1 => exact News.isList (by k_asm) (by k_mem)); (case e2 => assumption); (case e5 => assumption); (case e3 => omega); (case e4 => omega); intro t')))
local macro_rules | `(tactic| walk_at "binaryOp Add str str") => `(tactic| (k_here; k_dflt (refine' add_T ?e1 ?e2 ?_; (case e1 => (show (1 : Nat) ≤ _); (try dsimp only); omega); (case e2 => (have z1 : (Str.ofString "=\"").length = 2 := by decide +kernel); (have z2 : (Str.ofString "\"").length = 1 := by decide +kernel); omega); intro t' k' hk' hl')))
local macro_rules | `(tactic| walk_at "call ref") => `(tactic| (k_here; k_dflt (
    (refine' use_S ?C ?B ?F ?N ?X ?T ?hk ?hd ?hu ?_; (case C => ((rename (∀ _, PClaim _ _ _ _ _) => hC9); exact hC9 _)); (case B => k_asm); (case F => k_asm); (case N => k_asm); (case X => k_asm); (case T => k_asm); (case hk => exact rfl); (case hd => exact Nat.le_of_ble_eq_true rfl); (case hu => exact Nat.le_of_ble_eq_true rfl); intro t' h' tk' htk' F' N'; (try dsimp only at htk'); (try k_sweep)))))
local macro_rules | `(tactic| walk_at "call builtin:str.replace") => `(tactic| ((with_reducible show wpAny _ _ (call (Value.builtin "str.replace") [Value.str _ _, Value.str _ _, Value.str _ _]) _ _ _); refine replaceT ?hx ?hz ?hyz ?hs ?hu ?hv ?huv ?_; (case hx => omega); (case hz => decide); (case hyz => decide); (case hs => (show (1 : Nat) ≤ _); (try dsimp only); omega); (case hu => (show (1 : Nat) ≤ _); omega); (case hv => (show (1 : Nat) ≤ _); omega); (case huv => (show @Ne Nat _ _); omega); intro t' k' hk'; k_dflt (with_reducible show _)))
section stop5
local macro_rules | `(tactic| walk_at "execs cons") => `(tactic| ((with_reducible show wpAny _ _ (execs (Stmt.Assign [Expr.Name (Str.ofString "told") _] _ _ :: _) _) _ _ _); refine stop_in ?_))
theorem stD1 {w : World} {p : Program} {loose : List Str} {mean : ExcName → Option Value} {mg mb : Str → Option Value} {h₀ : Heap} {L fa v1 r1 nm sp : Addr} {cdv : Value} {s : Shared} {Q : Flow → Shared → Prop} {E : Value → Shared → Prop} {vvs nvs svs : List Value} {vals : List Str} {n1 nn ns : Nat} {t u v : Tok} {hand : Int} {th : Tok} {o1 o2 o3 o4 o5 : Obj} {m : Str → Option Value}
    (B : Below callerA h₀ [] h₀) (X : (Mine.hd.heap_39 w.params).In h₀) (T : Top p loose mean mg mb h₀)
    (F : Fr h₀ L s.heap m) (hm : m (Str.ofString "span") = some (.ref r1))
    (N : News h₀ L s.heap [(sp, W.listOf (List.toArray svs) ns), (nm, W.listOf (List.toArray nvs) nn), (r1, rngO (vals.length : Int) t u v), (v1, W.listOf (List.toArray vvs) n1), (L + 5, o5), (L + 4, o4), (L + 3, o3), (L + 2, o2), (L + 1, o1)])
    (hv : StrsAre vvs vals) (hnv : StrsAre nvs ((List.range vals.length).map nameAt)) (hn : vals.length ≤ 7) (hvl : ∀ y ∈ vals, y.length ≤ 10) (hcl : ∀ y ∈ vals, Calm y.cps.toList) (hh : hand = 0 ∨ hand = 1 ∨ hand = 2)
    (c2 : o2.data = .cell (some (.ref (escA hand)))) (c3 : o3.data = .cell (some (.ref v1))) (c4 : o4.data = .cell (some (.ref nm)))
    (h : ∀ tb h' tk' m', Fr h₀ L h' m' → m' (Str.ofString "span") = some (.ref r1) → m' (Str.ofString "doubled") = some (.str (Txt.join (Str.ofString ", ") ((List.range vals.length).map fun i => attr (nameAt i) (splOf hand (dbl (vals.getD i Str.empty))))) tb) →
      News h₀ L h' [(sp, W.listOf (List.toArray svs) ns), (nm, W.listOf (List.toArray nvs) nn), (r1, rngO (vals.length : Int) t u v), (v1, W.listOf (List.toArray vvs) n1), (L + 5, o5), (L + 4, o4), (L + 3, o3), (L + 2, o2), (L + 1, o1)] →
      wpAny (model prog0 w) (lawA L fa cdv) (execs (lawBody.drop 10) (lawE L fa cdv)) Q E { s with heap := h', toks := tk' }) :
    wpAny (model prog0 w) (lawA L fa cdv) (execs (lawBody.drop 9) (lawE L fa cdv)) Q E s := by
  rw [show m = (fun y => if y = Str.ofString "span" then some (.ref r1) else m y) from funext fun y => by split; (rename_i e; rw [e]; exact hm); rfl] at F
  unfold lawA lawE lawBody lawScope PySem.Challenge.pw_pg0113_01
  dsimp only [List.drop]
  k_steps
  refine stop_out ?_
  k_dflt (refine LCg.ListComp_U (F₀ := by k_asm) (by with_unfolding_all rfl) (by decide) (by rfl) (by decide) (by rfl) ?_)
  k_steps
  refine stop_out ?_
  k_dflt (refine LCg.CompSrc.range (by rfl) (by k_asm) (by k_asm) (News.get (by k_asm) (by k_mem)) (small_one (by omega) (by omega) (by omega) (by omega)) (rangeSize_nat _ _) (by rw [PySem.sizeLine_eq]; omega) ?_)
  intro g'
  refine ct_rest (ks := List.range vals.length) (fun i v => i < vals.length ∧ ∃ t, v = .int (0 + (i : Int)) t) (fun i => attr (nameAt i) (splOf hand (dbl (vals.getD i Str.empty)))) (by rw [List.length_range]; omega) (fun i v hi hv => ?_) ?_ ?_
  · obtain ⟨t, e⟩ := hv
    have : i < vals.length := by omega
    exact ⟨i, by rw [List.getElem?_range this], this, t, e⟩
  · rintro i v I' oI' C' oC' D' m₂ ys' h' tk' E' hc' ⟨hil, t', rfl⟩ hC' hx' F' N' off' ne'
    have off0 := off'
    (try (simp only [LCg.Off3, and_true] at off'))
    have hni : ((List.range vals.length).map nameAt)[i]? = some (nameAt i) := by rw [List.getElem?_map, List.getElem?_range hil]; rfl
    obtain ⟨y, hyi⟩ : ∃ y, vals[i]? = some y := ⟨_, List.getElem?_eq_getElem hil⟩
    have hyl := hvl y (List.mem_of_getElem? hyi)
    have hdl := dbl_len y
    have hcon := fun tt => escH_c w hand (dbl y) tt hh (by omega) (dbl_calm (hcl y (List.mem_of_getElem? hyi)))
    have hsl := spl_len hand (dbl y)
    have hnl : (nameAt i).length = 1 := rfl
    have hgd : vals.getD i Str.empty = y := by rw [List.getD_eq_getElem?_getD, hyi]; rfl
    simp only [hgd]
    rcases hh with rfl | rfl | rfl
    all_goals ((try dsimp only); (try k_fold))
    · replace c2 : o2.data = .cell (some (.ref 40)) := c2
      replace hcon : ∀ tt, PClaim w 40 [.str (dbl y) tt] NoPre (IsS (splOf 0 (dbl y))) := hcon
      k_steps
    · replace c2 : o2.data = .cell (some (.ref 47)) := c2
      replace hcon : ∀ tt, PClaim w 47 [.str (dbl y) tt] NoPre (IsS (splOf 1 (dbl y))) := hcon
      k_steps
    · replace c2 : o2.data = .cell (some (.ref 54)) := c2
      replace hcon : ∀ tt, PClaim w 54 [.str (dbl y) tt] NoPre (IsS (splOf 2 (dbl y))) := hcon
      k_steps
  · intro ys hys
    have hw := join_fit (sep := Str.ofString ", ") hn (fun i hi => attr_len (i := i) (hand := hand) (y := dbl (vals.getD i Str.empty)) (Nat.le_trans (dbl_len _) (by
      rw [List.getD_eq_getElem?_getD, List.getElem?_eq_getElem hi]
      have := hvl _ (List.getElem_mem hi)
      show _ ≤ 20
      simp only [Option.getD_some]
      omega)))
    k_steps
    refine join_list (News.isList (by assumption) (by k_mem)) (by simpa using hys) hw ?_
    intro t' k'
    k_steps
    refine stop_out ?_
    exact h _ _ _ _ (by assumption) rfl rfl (KStt.news_of (by assumption) (by lcg_sub))
end stop5
end Mine
end
section
open PySem PySem.W PyProof.Rows
namespace Mine
set_option maxRecDepth 100000
set_option maxHeartbeats 8000000
theorem fillLH : (fun (_ : OpenLaw) (_ : Params → Frag) => True) PySem.Challenge.rw_pg0113_01 Mine.hd.heap_39 := by k_fill; w_top off; trivial
theorem use_D {w : World} {f : Addr} {vs : List Value} {p : Program} {loose : List Str} {mean : ExcName → Option Value} {mg mb : Str → Option Value} {dp un : Nat} {gd : Option (List Code)} {cn : Str} {cs : Scope} {a : Addr} {ccd : Value} {cl : List (Str × Addr)} {outer : List Env}
    {A₀ : Around} {base h₀ : Heap} {L : Addr} {m : Str → Option Value} {s : Shared} {Q E : Value → Shared → Prop} {news : List (Addr × Obj)}
    {out : List (Str × Str)} {Pre : Heap → Prop} (C : PClaim w f vs Pre (IsD w out)) (hp : Pre s.heap) (B : Below A₀ base outer h₀) (F : Fr h₀ L s.heap m) (N : News h₀ L s.heap news) (K : (Mine.hd.heap_39 w.params).In h₀) (T : Top p loose mean mg mb h₀) (hk : cs.kind = .function) (hd : dp + 8 < recursionLimit) (hu : un + 256 < cLine)
    (h : ∀ D o kvs h' tk', (D == sysModules) = false → s.toks ≤ tk' → o.IsDictOf (strKind prog0 w) kvs → Paired SV kvs out → Fr h₀ L h' m → News h₀ L h' ((D, o) :: news) → Q (.ref D) { s with heap := h', toks := tk' }) : wpAny (model prog0 w) (ktrTop dp un gd cn cs L a ccd cl outer) (call (.ref f) vs) Q E s :=
  C p loose mean mg mb dp un gd cn cs a ccd cl outer A₀ base h₀ L m s Q E B F K T hk hp hd hu fun v h' tk' htk hst hres => by
    obtain ⟨D, o, kvs, rfl, hlo, hD, ho, hc, hn⟩ := hres
    exact h D o kvs h' tk' hlo htk hc hn (F.keeps hst) (news_made F N hst hD ho)
section stop6
local macro_rules | `(tactic| walk_at "call ref") => `(tactic| (k_here; k_dflt (first
  | (refine' use_L ?C ?hp ?B ?F ?N ?X ?T ?hk ?hd ?hu ?_; (case C => ((rename (∀ _, PClaim _ _ _ _ _) => hC9); exact hC9 _)); (case B => k_asm); (case F => k_asm); (case N => k_asm); (case X => k_asm); (case T => k_asm); (case hk => exact rfl); (case hd => exact Nat.le_of_ble_eq_true rfl); (case hu => exact Nat.le_of_ble_eq_true rfl); (case hp => exact True.intro); intro D' o' ws' n' h' tk' htk' hws' hoc' hod' F' N'; (try dsimp only at htk'); (try k_sweep))
  | (refine' use_D ?C ?hp ?B ?F ?N ?X ?T ?hk ?hd ?hu ?_; (case C => ((rename (∀ _ _, StrsAre _ _ → PClaim _ _ _ _ _) => hC9); exact hC9 _ _ (by assumption))); (case B => k_asm); (case F => k_asm); (case N => k_asm); (case X => k_asm); (case T => k_asm); (case hk => exact rfl); (case hd => exact Nat.le_of_ble_eq_true rfl); (case hu => exact Nat.le_of_ble_eq_true rfl); (case hp => exact ⟨_, News.get (by k_asm) (by k_mem), by assumption, _, by assumption⟩); intro D' o' kvs' h' tk' hlo' htk' hod' hpr' F' N'; (try dsimp only at htk'); (try k_sweep)))))
local macro_rules | `(tactic| walk_at "binaryOp Add str str") => `(tactic| (k_here; k_dflt (refine' add_T ?e1 ?e2 ?_; (case e1 => (show (1 : Nat) ≤ _); (try dsimp only); omega); (case e2 => (have z1 : (Str.ofString ", y=x\"\", z=\"x").length = 13 := by decide +kernel); omega); intro t' k' hk' hl')))
local macro_rules | `(tactic| walk_at "execs cons") => `(tactic| ((with_reducible show wpAny _ _ (execs (Stmt.Return _ _ :: _) _) _ _ _); refine stop_in ?_))
theorem stD2 {w : World} {p : Program} {loose : List Str} {mean : ExcName → Option Value} {mg mb : Str → Option Value} {h₀ : Heap} {L fa r1 : Addr} {cdv : Value} {s : Shared} {Q : Flow → Shared → Prop} {E : Value → Shared → Prop} {td : Tok} {dbd : Str} {ys : List Str} {ps : List (Str × Str)} {q1 q2 q3 q4 q5 q6 q7 q8 q9 : Addr × Obj} {m : Str → Option Value}
    (B : Below callerA h₀ [] h₀) (X : (Mine.hd.heap_39 w.params).In h₀) (T : Top p loose mean mg mb h₀)
    (F : Fr h₀ L s.heap m) (hm : m (Str.ofString "span") = some (.ref r1)) (hm2 : m (Str.ofString "doubled") = some (.str dbd td))
    (N : News h₀ L s.heap [q1, q2, q3, q4, q5, q6, q7, q8, q9])
    (hbl : dbd.length ≤ 9000)
    (hlaw : parOf (dbd ++ Str.ofString ", y=x\"\", z=\"x") = ys)
    (hys : ∀ y ∈ ys, y.length ≤ 10000) (hlen : ys.length = ps.length) (hlp : ps.length ≤ 1000)
    (hsp : ∀ (i : Nat) (y k v : Str), ys[i]? = some y → ps[i]? = some (k, v) → Txt.splitMax y "=" 1 = [k, v]) (hv : ∀ p ∈ ps, 1 ≤ p.2.length ∧ p.2.length ≤ 10000) (hnd : (ps.map (·.1)).Nodup)
    (h : ∀ d od kvs h' tk' m', (d == sysModules) = false → Fr h₀ L h' m' → m' (Str.ofString "span") = some (.ref r1) → m' (Str.ofString "told") = some (.ref d) → od.IsDictOf (strKind prog0 w) kvs → Paired SV kvs (ps.map fun p => (p.1, unq p.2)) →
      News h₀ L h' [(d, od), q1, q2, q3, q4, q5, q6, q7, q8, q9] →
      wpAny (model prog0 w) (lawA L fa cdv) (execs (lawBody.drop 11) (lawE L fa cdv)) Q E { s with heap := h', toks := tk' }) :
    wpAny (model prog0 w) (lawA L fa cdv) (execs (lawBody.drop 10) (lawE L fa cdv)) Q E s := by
  rw [show m = (fun y => if y = Str.ofString "span" then some (.ref r1) else if y = Str.ofString "doubled" then some (.str dbd td) else m y) from funext fun y => by (repeat' split) <;> first | rfl | (rename_i e; rw [e]; assumption)] at F
  have hC1 : ∀ t, PClaim w 26 [.str (dbd ++ Str.ofString ", y=x\"\", z=\"x") t] NoPre (IsL ys) := fun t => hlaw ▸ par_c w _ t (by
    have z1 : (Str.ofString ", y=x\"\", z=\"x").length = 13 := by decide +kernel
    rw [Str.length_append]; omega)
  have hC2 : ∀ l vs, StrsAre vs ys → PClaim w 21 [.ref l] (fun h => h.IsList l vs.toArray) (IsD w (ps.map fun p => (p.1, unq p.2))) := fun l vs hvs => keq_c w l vs ys ps hvs hys hlen hlp hsp hv hnd
  unfold lawA lawE lawBody lawScope PySem.Challenge.pw_pg0113_01
  dsimp only [List.drop]
  k_steps
  refine stop_out ?_
  exact h _ _ _ _ _ _ (by assumption) (by assumption) rfl rfl (by assumption) (by assumption) (KStt.news_of (by assumption) (by lcg_sub))
end stop6
end Mine
end
section
open PySem PySem.W PyProof.Rows
namespace Mine
set_option maxRecDepth 100000
set_option maxHeartbeats 8000000
theorem fillLI : (fun (_ : OpenLaw) (_ : Params → Frag) => True) PySem.Challenge.rw_pg0113_01 Mine.hd.heap_39 := by k_fill; w_top off; trivial
def tupD (p : Str × Str) : Dat := .tuple [.str p.1, .str p.2]
abbrev tupO (p : Str × Str) (t u : Tok) (n : Nat) : Obj := { cls := .type "tuple", data := .seq #[.str p.1 t, .str p.2 u] n }
theorem tupD_in {nw : List (Addr × Obj)} {a : Addr} {p : Str × Str} {t u : Tok} {n : Nat} (h : (a, tupO p t u n) ∈ nw) : DatIn nw (.ref a) (tupD p) :=
  .tuple (vs := [.str p.1 t, .str p.2 u]) h (.cons (.str _ _) (.cons (.str _ _) .nil))
theorem dat_snoc {nw : List (Addr × Obj)} : ∀ {vs : List Value} {ds : List Dat} {v : Value} {d : Dat}, DatAll nw vs ds → DatIn nw v d → DatAll nw (vs ++ [v]) (ds ++ [d])
  | _, _, _, _, .nil, h => .cons h .nil
  | _, _, _, _, .cons h1 r, h => .cons h1 (dat_snoc r h)
theorem dat_len {nw : List (Addr × Obj)} : ∀ {vs : List Value} {ds : List Dat}, DatAll nw vs ds → vs.length = ds.length
  | _, _, .nil => rfl
  | _, _, .cons _ r => by rw [List.length_cons, List.length_cons, dat_len r]
theorem zip_range {a b : List Str} {n : Nat} (h1 : a.length = n) (h2 : b.length = n) : a.zip b = (List.range n).map fun i => (a.getD i Str.empty, b.getD i Str.empty) := by
  apply List.ext_getElem?
  intro i
  rw [List.getElem?_map]
  by_cases hi : i < n
  · have e : (a.zip b)[i]? = some (a.getD i Str.empty, b.getD i Str.empty) := by
      rw [List.getElem?_zip_eq_some]
      have e1 : a[i]? = some (a.getD i Str.empty) := by rw [List.getD_eq_getElem?_getD, List.getElem?_eq_getElem (by omega)]; rfl
      have e2 : b[i]? = some (b.getD i Str.empty) := by rw [List.getD_eq_getElem?_getD, List.getElem?_eq_getElem (by omega)]; rfl
      exact ⟨e1, e2⟩
    rw [List.getElem?_range hi, e]
    rfl
  · rw [List.getElem?_eq_none (by rw [List.length_zip]; omega), List.getElem?_eq_none (by rw [List.length_range]; omega)]
    rfl
theorem kqd_tup {p : Str × Str} (h1 : PyData.strOk p.1 = true) (h2 : PyData.strOk p.2 = true) : kqdOk 8 (tupD p) = true := by
  simp [tupD, kqdOk, h1, h2]
theorem tups_of {h : Heap} : ∀ (ps : List (Str × Str)) (as : List Addr), as.length = ps.length → (∀ (j : Nat) p a, ps[j]? = some p → as[j]? = some a → ∃ t u, h.get? a = some (tupO p t u 0)) →
    ∃ tups, DatAll tups (as.map Value.ref) (ps.map tupD) ∧ ∀ q ∈ tups, q.1 ∈ as ∧ h.get? q.1 = some q.2
  | [], [], _, _ => ⟨[], .nil, fun q hq => nomatch hq⟩
  | [], _ :: _, hl, _ => by simp at hl
  | _ :: _, [], hl, _ => by simp at hl
  | p :: ps, a :: as, hl, hp => by
    obtain ⟨tups, hd, ht⟩ := tups_of ps as (by simpa using hl) fun j p' a' h1 h2 => hp (j + 1) p' a' (by simpa using h1) (by simpa using h2)
    obtain ⟨t, u, e⟩ := hp 0 p a rfl rfl
    refine ⟨(a, tupO p t u 0) :: tups, .cons (tupD_in List.mem_cons_self) (hd.mono fun q hq => List.mem_cons_of_mem _ hq), fun q hq => ?_⟩
    rcases List.mem_cons.mp hq with rfl | hq
    · exact ⟨List.mem_cons_self, e⟩
    · exact ⟨List.mem_cons_of_mem _ (ht q hq).1, (ht q hq).2⟩
theorem sv_get : ∀ {kvs : List (Str × Value)} {ps : List (Str × Str)} (j : Nat) {p : Str × Str} {k : Str} {x : Value}, Paired SV kvs ps → ps[j]? = some p → kvs[j]? = some (k, x) → k = p.1 ∧ ∃ t, x = .str p.2 t
  | _, _, j, _, _, _, .nil, h, _ => by simp at h
  | _, _, 0, _, _, _, .cons h1 _, hp, hk => by
    simp only [List.getElem?_cons_zero, Option.some.injEq] at hp hk
    subst hp; subst hk
    exact h1
  | _, _, j + 1, _, _, _, .cons _ r, hp, hk => sv_get j r (by simpa using hp) (by simpa using hk)
section
variable {prog : Program} {w : World} {A : Around} {E : Value → Shared → Prop} {s : Shared} {h₀ : Heap} {L v d : Addr} {m : Str → Option Value} {news : List (Addr × Obj)} {od : Obj} {kvs : List (Str × Value)} {ps : List (Str × Str)} {Q : Value → Shared → Prop}
theorem list_items (hh : A.handled = none) (F : Fr h₀ L s.heap m) (N : News h₀ L s.heap news) (hvw : (v, { cls := .type "dict_items", data := .fields #[.ref d] }) ∈ news) (hmd : (d, od) ∈ news) (hod : od.IsDictOf (PySem.strKind prog w) kvs) (hn : kvs.length ≤ 16777216)
    (hpr : Paired SV kvs ps)
    (h : ∀ B c tups vs h' tk, DatAll tups vs (ps.map tupD) → Fr h₀ L h' m → News h₀ L h' ((B, W.listOf vs.toArray c) :: (news ++ tups)) → Q (.ref B) { s with heap := h', toks := tk }) :
    wpAny (model prog w) A (call (.type "list") [.ref v]) Q E s := by
  obtain ⟨ep, hat⟩ := KdkAt.of hod
  refine kdx_call (knd := PySem.strKind prog w) (kvs := kvs) (ep := ep) hh ⟨_, (N _ hvw).1, rfl, rfl⟩ (hat.dictAt (N _ hmd).1) (kdl_size hn) fun h' tk acc c as hk hS hl hG hacc => ?_
  obtain ⟨tups, hC, hT⟩ := tups_of (h := h') ps as (by rw [hl, hpr.length]) fun j p a hp ha => by
    obtain ⟨key, k, x, e1, e2, e3⟩ := hG.pairs j a ha
    obtain ⟨t, rfl⟩ := Value.isStrOf_shape e2
    obtain ⟨rfl, u, rfl⟩ := sv_get j hpr hp e1
    exact ⟨t, u, e3⟩
  have ea : acc = (as.map Value.ref).toArray := by rw [← hacc, Array.toArray_toList]
  refine h _ c tups _ h' tk hC (F.keeps hk) fun q hq => ?_
  rcases List.mem_cons.mp hq with rfl | hq
  · exact ⟨by rw [← ea]; exact hS, kdx_fresh F (Nat.le_refl _)⟩
  · rcases List.mem_append.mp hq with hq | hq
    · exact ⟨hk _ _ (N q hq).1, (N q hq).2⟩
    · obtain ⟨hq1, e⟩ := hT q hq
      exact ⟨e, kdx_fresh F (Nat.le_of_lt (hG.above _ hq1))⟩
end
section
variable {prog : Program} {w : World} {A : Around} {E : Value → Shared → Prop} {s : Shared} {h₀ : Heap} {L : Addr} {m : Str → Option Value} {env : Env} {elt : Expr} {x : Str} {scope : Scope} {cl : List (Str × Addr)}
  {P : Nat → Value → Prop} {Fin : List Value → List (Addr × Obj) → Prop} {news : List (Addr × Obj)}
theorem ct_pairs {α : Type} {n : Nat} {ks : List α} (R : α → Value → Prop) (g : α → Str × Str) (hks : ks.length = n) (hP : ∀ i v, i < n → P i v → ∃ k, ks[i]? = some k ∧ R k v)
    (turn : ∀ k v I oI C oC D m₂ ys h tk tups (E' : Value → Shared → Prop), k ∈ ks → R k v → LCg.NsObj oC m₂ → m₂ x = some v → Fr h₀ L h m → News h₀ L h ((I, oI) :: (C, oC) :: (D, LCg.lst ys) :: (news ++ tups)) → LCg.Off3 I C D (news ++ tups) → ((@Ne Nat I C) ∧ (@Ne Nat I D) ∧ (@Ne Nat C D)) →
      wpAny (model prog w) A (eval elt (compEnvC scope cl C env)) (LCg.CompEnd h₀ L m { s with heap := h, toks := tk } I oI C oC D (LCg.lst ys) (fun _ => True) (fun y nw => ∃ a t u n, y = .ref a ∧ nw = news ++ ((a, tupO (g k) t u n) :: tups))) E' { s with heap := h, toks := tk })
    (fin : ∀ ys tups, DatAll tups ys (ks.map fun k => tupD (g k)) → Fin ys (news ++ tups)) : LCg.CompRest prog w A h₀ L m env elt x scope cl s (fun _ => True) P Fin n 0 [] news := by
  have key : ∀ (j i : Nat) (ys : List Value) (tups : List (Addr × Obj)), i + j = n → DatAll tups ys ((ks.take i).map fun k => tupD (g k)) → LCg.CompRest prog w A h₀ L m env elt x scope cl s (fun _ => True) P Fin j i ys (news ++ tups) := by
    intro j
    induction j with
    | zero =>
      intro i ys tups hi hy
      have e : i = ks.length := by omega
      subst e
      rw [List.take_length] at hy
      exact LCg.CompRest.zero (fin ys tups hy)
    | succ j ih =>
      intro i ys tups hi hy
      refine LCg.CompRest.succ ?_
      intro v I oI C oC D m₂ h tk E' hv hC hx F N off ne
      obtain ⟨k, hk, hR⟩ := hP i v (by omega) hv
      refine wpAny_mono (turn k v I oI C oC D m₂ ys h tk tups E' (List.mem_of_getElem? hk) hR hC hx F N off ne) (fun y s₂ hq => ?_) fun _ _ e => e
      obtain ⟨h', tk', nw, e, F', N', off', hS, a, t, u, n', rfl, rfl⟩ := hq
      refine ⟨h', tk', _, e, F', N', off', hS, ?_⟩
      refine ih (i + 1) _ _ (by omega) ?_
      rw [List.take_add_one, hk, List.map_append]
      exact dat_snoc (hy.mono fun q hq => List.mem_cons_of_mem _ hq) (tupD_in List.mem_cons_self)
  have := key n 0 [] [] (by omega) .nil
  rw [List.append_nil] at this
  exact this
end
theorem off_more {I C D : Addr} {news tups : List (Addr × Obj)} {p : Addr × Obj} (h : LCg.Off3 I C D (news ++ tups)) (hp : p.1 ≠ I ∧ p.1 ≠ C ∧ p.1 ≠ D) : LCg.Off3 I C D (news ++ (p :: tups)) := LCg.Off3.of fun q hq => by
  rcases List.mem_append.mp hq with hq | hq
  · exact h.mem q (List.mem_append.mpr (.inl hq))
  · rcases List.mem_cons.mp hq with rfl | hq
    · exact hp
    · exact h.mem q (List.mem_append.mpr (.inr hq))
theorem sub_more {a b c p : Addr × Obj} {news tups : List (Addr × Obj)} : ∀ q ∈ a :: b :: c :: (news ++ (p :: tups)), q ∈ p :: a :: b :: c :: (news ++ tups) := by
  intro q hq
  simp only [List.mem_cons, List.mem_append] at hq ⊢
  rcases hq with h | h | h | h | h | h
  · exact .inr (.inl h)
  · exact .inr (.inr (.inl h))
  · exact .inr (.inr (.inr (.inl h)))
  · exact .inr (.inr (.inr (.inr (.inl h))))
  · exact .inl h
  · exact .inr (.inr (.inr (.inr (.inr h))))
open Classical in
theorem eq_tups {prog : Program} {w : World} {A : Around} {E : Value → Shared → Prop} {s : Shared} {h₀ : Heap} {L D1 D5 a b : Addr} {news tups1 tups : List (Addr × Obj)} {vs1 ys : List Value} {c1 c5 n1 n2 : Nat} {t1 u1 t2 u2 : Tok} {ps : List (Str × Str)} {q1 q2 : Str × Str} {Q : Value → Shared → Prop}
    (N : News h₀ L s.heap news) (ma : (D1, W.listOf vs1.toArray c1) ∈ news) (Da : DatAll tups1 vs1 ((ps ++ [q1, q2]).map tupD)) (sa : ∀ q ∈ tups1, q ∈ news)
    (mb : (D5, W.listOf (ys ++ [Value.ref a, Value.ref b]).toArray c5) ∈ news) (Db : DatAll tups ys (ps.map tupD)) (sb : ∀ q ∈ tups, q ∈ news)
    (m1 : (a, tupO q1 t1 u1 n1) ∈ news) (m2 : (b, tupO q2 t2 u2 n2) ∈ news) (hok : ∀ q ∈ ps ++ [q1, q2], PyData.strOk q.1 = true ∧ PyData.strOk q.2 = true)
    (hu : A.units + 64 < cLine) (h : Q (.bool true) s) : wpAny (model prog w) A (compareOp .Eq (.ref D1) (.ref D5)) Q E s := by
  have hb : DatAll news (ys ++ [Value.ref a, Value.ref b]) ((ps ++ [q1, q2]).map tupD) := by
    have := dat_snoc (dat_snoc (Db.mono sb) (tupD_in m1)) (tupD_in m2)
    rw [List.append_assoc, List.append_assoc] at this
    rw [List.map_append]
    exact this
  have hk : ∀ d ∈ (ps ++ [q1, q2]).map tupD, kqdOk 8 d = true := fun d hd => by
    obtain ⟨q, hq, rfl⟩ := List.mem_map.mp hd
    exact kqd_tup (hok q hq).1 (hok q hq).2
  refine kqd_eq (n₁ := news) (n₂ := news) N ma rfl rfl (Da.mono sa) (fun _ h => h) mb rfl rfl hb (fun _ h => h) hk hk hu ?_
  rw [decide_eq_true rfl]
  exact h
section stop7
local macro_rules | `(tactic| walk_at "call type:list") => `(tactic| refine stop_in ?_)
local macro_rules | `(tactic| walk_at "eval ListComp") => `(tactic| refine stop_in ?_)
local macro_rules | `(tactic| walk_at "CompSrc") => `(tactic| refine stop_in ?_)
local macro_rules | `(tactic| walk_at "CompEnd") => `(tactic| refine stop_in ?_)
local macro_rules | `(tactic| walk_at "binaryOp Add ref ref") => `(tactic| refine stop_in ?_)
local macro_rules | `(tactic| walk_at "compareOp Eq ref ref") => `(tactic| refine stop_in ?_)
local macro_rules | `(tactic| walk_at "subscriptTail Name Name ref int") => `(tactic| (k_here; k_dflt (refine' item_at ?e1 ?e2 ?e3 ?e4 ?e5 ?_; (case e1 => exact News.isList (by k_asm) (by k_mem)); (case e2 => assumption); (case e5 => assumption); (case e3 => omega); (case e4 => omega); intro t')))
theorem stD3 {w : World} {p : Program} {loose : List Str} {mean : ExcName → Option Value} {mg mb : Str → Option Value} {h₀ : Heap} {L fa d r1 v1 nm sp : Addr} {cdv : Value} {s : Shared} {Q : Flow → Shared → Prop} {E : Value → Shared → Prop} {nvs svs : List Value} {nms spl : List Str} {n nn ns : Nat} {t u v : Tok} {kvs : List (Str × Value)} {o1 o2 o3 o4 o5 ov1 od : Obj} {m : Str → Option Value}
    (B : Below callerA h₀ [] h₀) (X : (Mine.hd.heap_39 w.params).In h₀) (T : Top p loose mean mg mb h₀)
    (F : Fr h₀ L s.heap m) (hm : m (Str.ofString "span") = some (.ref r1)) (hm2 : m (Str.ofString "told") = some (.ref d))
    (N : News h₀ L s.heap [(d, od), (sp, W.listOf (List.toArray svs) ns), (nm, W.listOf (List.toArray nvs) nn), (r1, rngO (n : Int) t u v), (v1, ov1), (L + 5, o5), (L + 4, o4), (L + 3, o3), (L + 2, o2), (L + 1, o1)])
    (hlo : (d == sysModules) = false) (hod : od.IsDictOf (PySem.strKind prog0 w) kvs) (hpr : Paired SV kvs (nms.zip spl ++ [(Str.ofString "y", Str.ofString "x\"\""), (Str.ofString "z", Str.ofString "\"x")]))
    (hnv : StrsAre nvs nms) (hsv : StrsAre svs spl) (hl1 : nms.length = n) (hl2 : spl.length = n) (hn : n ≤ 7)
    (c4 : o4.data = .cell (some (.ref nm))) (c5 : o5.data = .cell (some (.ref sp)))
    (hok : ∀ q ∈ nms.zip spl, PyData.strOk q.1 = true ∧ PyData.strOk q.2 = true)
    (h : ∀ h' tk' m', Fr h₀ L h' m' → Q (.ret (.bool true)) { s with heap := h', toks := tk' }) :
    wpAny (model prog0 w) (lawA L fa cdv) (execs (lawBody.drop 11) (lawE L fa cdv)) Q E s := by
  rw [show m = (fun y => if y = Str.ofString "span" then some (.ref r1) else if y = Str.ofString "told" then some (.ref d) else m y) from funext fun y => by (repeat' split) <;> first | rfl | (rename_i e; rw [e]; assumption)] at F
  have hlen := hpr.length
  rw [List.length_append, List.length_zip] at hlen
  have hkl : kvs.length ≤ 16777216 := by simp only [List.length_cons, List.length_nil] at hlen; omega
  unfold lawA lawE lawBody lawScope PySem.Challenge.pw_pg0113_01
  dsimp only [List.drop]
  k_steps
  refine stop_out ?_
  refine list_items rfl (by k_asm) (by k_asm) (by k_mem) (by k_mem) hod hkl hpr ?_
  intro D1 c1 tups1 vs1 h1 tk1 hD1 F' N'
  (try simp only [List.cons_append, List.nil_append] at N')
  (try dsimp only)
  k_steps
  refine stop_out ?_
  k_dflt (refine LCg.ListComp_U (F₀ := by k_asm) (by with_unfolding_all rfl) (by decide) (by rfl) (by decide) (by rfl) ?_)
  k_steps
  refine stop_out ?_
  k_dflt (refine LCg.CompSrc.range (by rfl) (by k_asm) (by k_asm) (News.get (by k_asm) (by k_mem)) (small_one (by omega) (by omega) (by omega) (by omega)) (rangeSize_nat _ _) (by rw [PySem.sizeLine_eq]; omega) ?_)
  intro g'
  refine ct_pairs (ks := List.range n) (fun i v => i < n ∧ ∃ t, v = .int (0 + (i : Int)) t) (fun i => (nms.getD i Str.empty, spl.getD i Str.empty)) (by rw [List.length_range]; omega) (fun i v hi hv => ?_) ?_ ?_
  · obtain ⟨t, e⟩ := hv
    have : i < n := by omega
    exact ⟨i, by rw [List.getElem?_range this], this, t, e⟩
  · rintro i v I' oI' C' oC' D' m₂ ys' h' tk' tups2 E' hc' ⟨hil, t', rfl⟩ hC' hx' F' N' off' ne'
    have off0 := off'
    have hni : nms[i]? = some (nms.getD i Str.empty) := by rw [List.getD_eq_getElem?_getD, List.getElem?_eq_getElem (by omega)]; rfl
    have hsi : spl[i]? = some (spl.getD i Str.empty) := by rw [List.getD_eq_getElem?_getD, List.getElem?_eq_getElem (by omega)]; rfl
    (try dsimp only); (try k_fold)
    k_steps
    rename_i l9
    (rename News _ _ _ _ => N9)
    refine stop_out ?_
    exact LCg.CompEnd.intro (by assumption) N9 _ sub_more (off_more off0 ⟨Nat.ne_of_gt l9.1, Nat.ne_of_gt l9.2.1, Nat.ne_of_gt l9.2.2.1⟩) True.intro ⟨_, _, _, _, rfl, rfl⟩
  · intro ys tups hys
    have hysl : ys.length = n := by rw [dat_len hys, List.length_map, List.length_range]
    k_steps
    (rename News _ _ _ _ => N9)
    (rename Fr _ _ _ _ => F9)
    refine stop_out ?_
    refine add_LL F9 N9 (News.isList N9 (by k_mem)) (News.isList N9 (by k_mem)) (by rw [PySem.sizeLine_eq]; simp only [List.length_cons, List.length_nil]; omega) ?_
    intro D5 h5 F5 N5 l5
    (try dsimp only)
    have hys' : DatAll tups ys ((nms.zip spl).map tupD) := by
      rw [zip_range hl1 hl2, List.map_map]; exact hys
    refine eq_tups (q1 := (Str.ofString "y", Str.ofString "x\"\"")) (q2 := (Str.ofString "z", Str.ofString "\"x")) N5 (by k_mem) hD1 (fun q hq => by simp only [List.mem_cons, List.mem_append, hq, or_true, true_or]) (by k_mem) hys' (fun q hq => by simp only [List.mem_cons, List.mem_append, hq, or_true, true_or]) (by k_mem) (by k_mem) (fun q hq => ?_) (Nat.le_of_ble_eq_true rfl) (h _ _ _ F5)
    rcases List.mem_append.mp hq with hq | hq
    · exact hok q hq
    · rcases List.mem_cons.mp hq with rfl | hq
      · exact ⟨by decide +kernel, by decide +kernel⟩
      · rw [List.mem_singleton.mp hq]
        exact ⟨by decide +kernel, by decide +kernel⟩
end stop7
end Mine
end
section
open PySem PySem.W PyProof.Rows
namespace Mine
set_option maxRecDepth 100000
set_option maxHeartbeats 8000000
def namesOf (n : Nat) : List Str := (List.range n).map nameAt
def pairsOf (hand : Int) (vals : List Str) : List (Str × Str) := (namesOf vals.length).zip (vals.map (splOf hand))
def bareOf (hand : Int) (vals : List Str) : Str := Txt.join (Str.ofString ", ") ((List.range vals.length).map fun i => attr (nameAt i) (splOf hand (vals.getD i Str.empty)))
def dbdOf (hand : Int) (vals : List Str) : Str := Txt.join (Str.ofString ", ") ((List.range vals.length).map fun i => attr (nameAt i) (splOf hand (dbl (vals.getD i Str.empty))))
def yz : List (Str × Str) := [(Str.ofString "y", Str.ofString "x\"\""), (Str.ofString "z", Str.ofString "\"x")]
def quo (s : Str) : Str := Str.ofString "\"" ++ s ++ Str.ofString "\""
def psOf (hand : Int) (vals : List Str) : List (Str × Str) := (pairsOf hand vals).map (fun q => (q.1, quo q.2)) ++ yz
def ysOf (hand : Int) (vals : List Str) : List Str := (psOf hand vals).map fun p => p.1 ++ Str.ofString "=" ++ p.2
structure Plain (hand : Int) (vals : List Str) : Prop where
  bare : parOf (bareOf hand vals) = toldOf (pairsOf hand vals)
  ok : ∀ x ∈ toldOf (pairsOf hand vals), PyData.strOk x = true
  dbd : parOf (dbdOf hand vals ++ Str.ofString ", y=x\"\", z=\"x") = ysOf hand vals
  split : ∀ (i : Nat) (y k v : Str), (ysOf hand vals)[i]? = some y → (psOf hand vals)[i]? = some (k, v) → Txt.splitMax y "=" 1 = [k, v]
  nodup : ((psOf hand vals).map (·.1)).Nodup
  unq : (psOf hand vals).map (fun p => (p.1, unq p.2)) = pairsOf hand vals ++ yz
  pok : ∀ q ∈ pairsOf hand vals, PyData.strOk q.1 = true ∧ PyData.strOk q.2 = true
theorem names_len {n : Nat} : ∀ y ∈ namesOf n, y.length = 1 := fun y hy => by
  obtain ⟨i, _, rfl⟩ := List.mem_map.mp hy
  rfl
theorem join_le {n : Nat} {g : Nat → Str} (hn : n ≤ 7) (hg : ∀ i, i < n → (g i).length ≤ 124) : (Txt.join (Str.ofString ", ") ((List.range n).map g)).length ≤ 9000 := by
  have h1 := StrLaws.join_length_le (Str.ofString ", ") ((List.range n).map g)
  have h2 := sum_fit (b := 124) (ps := (List.range n).map g) fun p hp => by
    obtain ⟨i, hi, rfl⟩ := List.mem_map.mp hp
    exact hg i (List.mem_range.mp hi)
  have z : (Str.ofString ", ").length = 2 := by decide +kernel
  rw [List.length_map, List.length_range] at h1 h2
  rw [z] at h1
  show (Builtin.Str.glued _ _).length ≤ 9000
  rw [StrLaws.glued_eq_join]
  omega
theorem ps_len {hand : Int} {vals : List Str} : (psOf hand vals).length = vals.length + 2 := by
  unfold psOf pairsOf namesOf yz
  simp
theorem ps_fit {hand : Int} {vals : List Str} (hvl : ∀ y ∈ vals, y.length ≤ 10) : ∀ p ∈ psOf hand vals, p.1.length = 1 ∧ 1 ≤ p.2.length ∧ p.2.length ≤ 100 := by
  intro p hp
  rcases List.mem_append.mp hp with hp | hp
  · obtain ⟨q, hq, rfl⟩ := List.mem_map.mp hp
    have h1 := (List.of_mem_zip hq).1
    obtain ⟨y, hy, e⟩ := List.mem_map.mp (List.of_mem_zip hq).2
    have h2 := spl_len hand y
    have h3 := hvl y hy
    have z : (Str.ofString "\"").length = 1 := by decide +kernel
    refine ⟨names_len _ h1, ?_, ?_⟩ <;> simp only [quo, Str.length_append, z] <;> rw [← e] <;> omega
  · rcases List.mem_cons.mp hp with rfl | hp
    · exact ⟨by decide +kernel, by decide +kernel, by decide +kernel⟩
    · rw [List.mem_singleton.mp hp]
      exact ⟨by decide +kernel, by decide +kernel, by decide +kernel⟩
theorem law_body {w : World} {p : Program} {loose : List Str} {mean : ExcName → Option Value} {mg mb : Str → Option Value} {h₀ : Heap} {L fa a : Addr} {cdv : Value} {s : Shared} {Q : Flow → Shared → Prop} {E : Value → Shared → Prop} {vs : List Value} {ns : List Int} {o1 o2 o3 o4 o5 : Obj}
    (plain : ∀ (hand : Int) (nums : List Int), hand = 0 ∨ hand = 1 ∨ hand = 2 → nums.length ≤ 5 → Plain hand (valsOf nums))
    (vlen : ∀ (nums : List Int), ∀ y ∈ valsOf nums, y.length ≤ 10) (vcalm : ∀ (nums : List Int), ∀ y ∈ valsOf nums, Calm y.cps.toList)
    (B : Below callerA h₀ [] h₀) (X : (Mine.hd.heap_39 w.params).In h₀) (T : Top p loose mean mg mb h₀)
    (F : Fr h₀ L s.heap (fun y => if y = Str.ofString "script" then some (.ref a) else none))
    (N : News h₀ L s.heap [(L + 5, o5), (L + 4, o4), (L + 3, o3), (L + 2, o2), (L + 1, o1)])
    (c1 : o1.data = .cell none) (c2 : o2.data = .cell none) (c3 : o3.data = .cell none) (c4 : o4.data = .cell none) (c5 : o5.data = .cell none)
    (hl : h₀.IsList a vs.toArray) (hi : IntsAre vs ns) (hn : ns.length ≤ 63)
    (h : ∀ h' tk' m', Fr h₀ L h' m' → Q (.ret (.bool true)) { s with heap := h', toks := tk' }) :
    wpAny (model prog0 w) (lawA L fa cdv) (execs lawBody (lawE L fa cdv)) Q E s := by
  refine stA B X T F N c1 c2 hl hi hn ?_
  intro a1 vs1 n1 th o1' o2' h1 tk1 m1 F1 hm1 N1 hlt1 hi1 c1' c2'
  have hnl := nums_len ns
  have hh : (numsOf ns).sum.fmod 3 = 0 ∨ (numsOf ns).sum.fmod 3 = 1 ∨ (numsOf ns).sum.fmod 3 = 2 := by
    have h1 : 0 ≤ (numsOf ns).sum.fmod 3 := Int.fmod_nonneg_of_pos _ (by decide)
    have h2 : (numsOf ns).sum.fmod 3 < 3 := Int.fmod_lt_of_pos _ (by decide)
    omega
  generalize (numsOf ns).sum.fmod 3 = hand at hh c1' c2'
  generalize numsOf ns = nums at hi1 hnl
  have P := plain hand nums hh hnl.2
  have hvl := vlen nums
  have hcl := vcalm nums
  have hv7 : (valsOf nums).length ≤ 7 := by
    unfold valsOf
    simp only [List.length_append, List.length_map, List.length_singleton]
    omega
  refine stB1 B X T F1 hm1 N1 hlt1 hi1 hnl.2 c3 ?_
  intro v1 vvs n2 o3' h2 tk2 m2 F2 N2 hlt2 hvv c3'
  generalize valsOf nums = vals at P hvl hcl hv7 hvv
  refine stB2 B X T F2 N2 hlt2 hvv hv7 c3' c4 ?_
  intro r1 t u v nm nvs nn o4' h3 tk3 m3 F3 hm3 N3 hlt3 hne3 hnv c4'
  refine stB3 B X T F3 hm3 N3 hlt2 hlt3 hne3 hvv hv7 (fun y hy => Nat.le_trans (hvl y hy) (by decide)) hh c1' c3' c5 ?_
  intro sp svs ns2 o5' h4 tk4 m4 F4 hm4 N4 hsv c5'
  refine stC (th := th) B X T F4 hm4 N4 hvv hnv hv7 (fun y hy => Nat.le_trans (hvl y hy) (by decide)) hcl hh c2' c3' c4' ?_
  intro tb h5 tk5 m5 F5 hm5 hm5b N5
  have hnl2 : ∀ y ∈ (List.range vals.length).map nameAt, y.length ≤ 20 := fun y hy => by rw [names_len y hy]; decide
  have hget : ∀ i, i < vals.length → (vals.getD i Str.empty).length ≤ 10 := fun i hi => by
    rw [List.getD_eq_getElem?_getD, List.getElem?_eq_getElem hi]
    exact hvl _ (List.getElem_mem hi)
  refine stC2 B X T F5 hm5 hm5b N5 hnv hsv (by simp) (by simp; omega) hnl2 (fun y hy => ?_) ?_ c4' c5' P.bare P.ok ?_
  · obtain ⟨z, hz, rfl⟩ := List.mem_map.mp hy
    have := spl_len hand z
    have := hvl z hz
    omega
  · exact Nat.le_trans (join_le hv7 fun i hi => attr_len (Nat.le_trans (hget i hi) (by decide))) (by decide)
  intro h6 tk6 m6 F6 hm6 N6
  refine stD1 (th := th) B X T F6 hm6 N6 hvv hnv hv7 hvl hcl hh c2' c3' c4' ?_
  intro td h7 tk7 m7 F7 hm7 hm7b N7
  refine stD2 B X T F7 hm7 hm7b N7 (join_le hv7 fun i hi => attr_len (Nat.le_trans (dbl_len _) (by have := hget i hi; omega))) P.dbd ?_ (by unfold ysOf; rw [List.length_map]) (by rw [ps_len]; omega) P.split ?_ P.nodup ?_
  · intro y hy
    obtain ⟨q, hq, rfl⟩ := List.mem_map.mp hy
    have h1 := ps_fit hvl q hq
    have z : (Str.ofString "=").length = 1 := by decide +kernel
    show (q.1 ++ Str.ofString "=" ++ q.2).length ≤ 10000
    rw [Str.length_append, Str.length_append, z]
    omega
  · intro q hq
    have h1 := ps_fit hvl q hq
    omega
  intro d od kvs h8 tk8 m8 hlo F8 hm8 hm8b hod hpr N8
  rw [P.unq] at hpr
  exact stD3 (nms := (List.range vals.length).map nameAt) (spl := vals.map (splOf hand)) B X T F8 hm8 hm8b N8 hlo hod hpr hnv hsv (by simp) (by simp) hv7 c4' c5' P.pok fun h' tk' m' F' => h h' tk' m' F'
end Mine
end
section
open PySem PySem.W PyProof.Rows
namespace Mine
set_option maxRecDepth 100000
set_option maxHeartbeats 8000000
theorem law_holds
    (plain : ∀ (hand : Int) (nums : List Int), hand = 0 ∨ hand = 1 ∨ hand = 2 → nums.length ≤ 5 → Plain hand (valsOf nums))
    (vlen : ∀ (nums : List Int), ∀ y ∈ valsOf nums, y.length ≤ 10) (vcalm : ∀ (nums : List Int), ∀ y ∈ valsOf nums, Calm y.cps.toList) : PySem.Challenge.rw_pg0113_01.Holds := hd (by
  k_go0
  (rename Below _ _ _ _ => K9)
  (rename Frag.In _ _ => KX9)
  (rename Top _ _ _ _ _ _ => T9)
  (rename Fr _ _ _ _ => F9)
  (rename News _ _ _ _ => N9)
  (rename Heap.IsList _ _ _ => hL9)
  (rename IntsAre _ _ => hI9)
  (rename ¬ _ => hc9)
  refine law_body plain vlen vcalm K9 KX9 T9 ?cF N9 ?c1 ?c2 ?c3 ?c4 ?c5 hL9 hI9 (by omega) ?h
  case cF => exact F9
  case c1 => assumption
  case c2 => assumption
  case c3 => assumption
  case c4 => assumption
  case c5 => assumption
  intro h' tk' m' F'
  refine goodW_bool F' (by assumption) (raisesW_false ?_) ?_
  · wrow_none_raised
  · wrow_post)
end Mine
end
section
open PySem PySem.W PyProof.Rows Builtin Builtin.Str
namespace Mine
set_option maxRecDepth 100000
/-- a text of these signs -/
def ofL (l : List Nat) : Str := ⟨l.toArray⟩
theorem ofL_list (l : List Nat) : (ofL l).cps.toList = l := rfl
theorem list_ofL (x : Str) : ofL x.cps.toList = x := rfl
theorem ofL_app (a b : List Nat) : ofL a ++ ofL b = ofL (a ++ b) := strExt (by
  rw [Str.cps_append, Array.toList_append]; rfl)
theorem app_list (a b : Str) : (a ++ b).cps.toList = a.cps.toList ++ b.cps.toList := by rw [Str.cps_append, Array.toList_append]
theorem ofL_len (l : List Nat) : (ofL l).length = l.length := rfl
/-- strip, by lists -/
def stripL (l : List Nat) : List Nat := ((l.dropWhile Unicode.isSpace).reverse.dropWhile Unicode.isSpace).reverse
theorem dropWhile_len {p : Nat → Bool} : ∀ l : List Nat, l.drop (l.takeWhile p).length = l.dropWhile p
  | [] => rfl
  | a :: r => by
    by_cases h : p a = true
    · simp [h, dropWhile_len r]
    · simp [h]
theorem strip_list (x : Str) : (Txt.strip x).cps.toList = stripL x.cps.toList := by
  unfold Txt.strip
  rw [PyProof.Rows.stripBy_eq, StrLaws.strSub_toList]
  unfold stripLo stripHi
  simp only [if_true]
  have hn : x.length = x.cps.toList.length := by simp [Str.length]
  rw [hn, dropWhile_len]
  generalize x.cps.toList = l
  unfold stripL
  generalize hd : l.dropWhile Unicode.isSpace = d
  have hlen : d.length = l.length - (l.takeWhile Unicode.isSpace).length := by rw [← hd, ← dropWhile_len, List.length_drop]
  rw [← dropWhile_len d.reverse]
  have ht : (d.reverse.takeWhile Unicode.isSpace).length ≤ d.length := by
    have := (List.takeWhile_sublist (p := Unicode.isSpace) (l := d.reverse)).length_le
    rw [List.length_reverse] at this
    exact this
  rw [List.drop_reverse, List.reverse_reverse]
  congr 1
  omega
theorem strip_ofL (l : List Nat) : Txt.strip (ofL l) = ofL (stripL l) := strExt (by rw [strip_list]; rfl)
theorem stripL_blank (l : List Nat) : stripL (32 :: l) = stripL l := by
  unfold stripL
  rw [List.dropWhile_cons, if_pos (by decide +kernel)]
theorem stripL_still {a b : Nat} {l : List Nat} (ha : Unicode.isSpace a = false) (hb : Unicode.isSpace b = false) : stripL (a :: (l ++ [b])) = a :: (l ++ [b]) := by
  unfold stripL
  rw [List.dropWhile_cons, if_neg (by rw [ha]; decide)]
  rw [show (a :: (l ++ [b])).reverse = b :: (l.reverse ++ [a]) by simp]
  rw [List.dropWhile_cons, if_neg (by rw [hb]; decide)]
  simp
/-- split at one sign, by lists -/
noncomputable def splitL (c : Nat) : List Nat → List Nat → List (List Nat)
  | p, [] => [p]
  | p, k :: r => if k = c then p :: splitL c [] r else splitL c (p ++ [k]) r
theorem splitL_free (c : Nat) : ∀ (l p : List Nat), c ∉ l → splitL c p l = [p ++ l]
  | [], p, _ => by simp [splitL]
  | k :: r, p, h => by
    have h1 : ¬ k = c := fun e => h (e ▸ List.mem_cons_self ..)
    unfold splitL
    rw [if_neg h1, splitL_free c r _ fun m => h (List.mem_cons_of_mem _ m)]
    simp
theorem splitL_at (c : Nat) : ∀ (l p r : List Nat), c ∉ l → splitL c p (l ++ c :: r) = (p ++ l) :: splitL c [] r
  | [], p, r, _ => by simp [splitL]
  | k :: l, p, r, h => by
    have h1 : ¬ k = c := fun e => h (e ▸ List.mem_cons_self ..)
    show (if k = c then p :: splitL c [] (l ++ c :: r) else splitL c (p ++ [k]) (l ++ c :: r)) = _
    rw [if_neg h1, splitL_at c l _ r fun m => h (List.mem_cons_of_mem _ m)]
    simp
theorem splitL_skip (c : Nat) : ∀ (l p r : List Nat), c ∉ l → splitL c p (l ++ r) = splitL c (p ++ l) r
  | [], p, r, _ => by simp
  | k :: l, p, r, h => by
    have h1 : ¬ k = c := fun e => h (e ▸ List.mem_cons_self ..)
    show (if k = c then p :: splitL c [] (l ++ r) else splitL c (p ++ [k]) (l ++ r)) = _
    rw [if_neg h1, splitL_skip c l _ r fun m => h (List.mem_cons_of_mem _ m)]
    simp
theorem splitL_pre (c : Nat) (a : List Nat) : ∀ (l p : List Nat), ∃ h t, splitL c p l = h :: t ∧ splitL c (a ++ p) l = (a ++ h) :: t
  | [], p => ⟨p, [], rfl, rfl⟩
  | k :: r, p => by
    unfold splitL
    by_cases hk : k = c
    · rw [if_pos hk, if_pos hk]; exact ⟨_, _, rfl, rfl⟩
    · rw [if_neg hk, if_neg hk, List.append_assoc]; exact splitL_pre c a r (p ++ [k])
theorem splitL_join (c : Nat) : ∀ (parts : List Str) (hne : parts ≠ []), (∀ p ∈ parts, c ∉ p.cps.toList) → splitL c [] (Str.join ⟨#[c]⟩ parts).cps.toList = parts.map (·.cps.toList)
  | [], hne, _ => absurd rfl hne
  | [p], _, h => by
    show splitL c [] p.cps.toList = _
    rw [splitL_free c _ _ (h p (List.mem_singleton.mpr rfl))]
    simp
  | p :: q :: r, _, h => by
    have ih := splitL_join c (q :: r) (by simp) fun a ha => h a (List.mem_cons_of_mem _ ha)
    show splitL c [] (p ++ ⟨#[c]⟩ ++ Str.join ⟨#[c]⟩ (q :: r)).cps.toList = _
    simp only [Str.cps_append, Array.toList_append]
    show splitL c [] (p.cps.toList ++ [c] ++ (Str.join ⟨#[c]⟩ (q :: r)).cps.toList) = _
    rw [List.append_assoc]
    show splitL c [] (p.cps.toList ++ c :: (Str.join ⟨#[c]⟩ (q :: r)).cps.toList) = _
    rw [splitL_at c _ _ _ (h p (List.mem_cons_self ..)), ih]
    simp
theorem split_ne (x y : Str) : Txt.split x y ≠ [] := by
  unfold Txt.split
  split
  · exact List.cons_ne_nil _ _
  split
  · exact List.cons_ne_nil _ _
  rw [StrLaws.partsBetween_eq]
  obtain ⟨p, r, e⟩ := StrLaws.partsFrom_ne x y.length 0 (occurrences x y 0 x.length (x.length + 1))
  rw [e]
  exact List.cons_ne_nil _ _
theorem split_list (x : Str) (c : Nat) : (Txt.split x ⟨#[c]⟩).map (·.cps.toList) = splitL c [] x.cps.toList := by
  have h := splitL_join c (Txt.split x ⟨#[c]⟩) (split_ne _ _) (StrLaws.split_free x c)
  rw [StrLaws.join_split] at h
  exact h.symm
/-- the backslashes undone, by lists: what is read, and whether a backslash stands open -/
noncomputable def undE : Bool → List Nat → List Nat
  | _, [] => []
  | true, c :: r => c :: undE false r
  | false, c :: r => if c = 92 then undE true r else c :: undE false r
noncomputable def escE : Bool → List Nat → Bool
  | e, [] => e
  | true, _ :: r => escE false r
  | false, c :: r => if c = 92 then escE true r else escE false r
end Mine
end
section
open PySem PySem.W PyProof.Rows Builtin Builtin.Str
namespace Mine
set_option maxRecDepth 100000
/-- each pair of c becomes z -/
noncomputable def sub2 (c : Nat) (z : List Nat) : List Nat → List Nat
  | a :: b :: r => if a = c ∧ b = c then z ++ sub2 c z r else a :: sub2 c z (b :: r)
  | [a] => [a]
  | [] => []
theorem sub2_cons {c : Nat} {z : List Nat} {a : Nat} (h : ¬ a = c) : ∀ r : List Nat, sub2 c z (a :: r) = a :: sub2 c z r
  | [] => rfl
  | b :: r => by
    show (if a = c ∧ b = c then _ else _) = _
    rw [if_neg fun x => h x.1]
def PairAt (c : Nat) (l : List Nat) (k : Nat) : Prop := (l.drop k).take 2 = [c, c]
theorem sub2_none (c : Nat) (z : List Nat) : ∀ l : List Nat, (∀ k, ¬ PairAt c l k) → sub2 c z l = l
  | [], _ => rfl
  | [_], _ => rfl
  | a :: b :: r, h => by
    have h0 : ¬ (a = c ∧ b = c) := fun e => h 0 (by unfold PairAt; rw [e.1, e.2]; rfl)
    show (if a = c ∧ b = c then _ else _) = _
    rw [if_neg h0, sub2_none c z (b :: r) fun k hk => h (k + 1) hk]
theorem sub2_skip (c : Nat) (z : List Nat) : ∀ (n : Nat) (l : List Nat), (∀ k, k < n → ¬ PairAt c l k) → PairAt c l n → sub2 c z l = l.take n ++ z ++ sub2 c z (l.drop (n + 2))
  | 0, l, _, h => by
    unfold PairAt at h
    rw [List.drop_zero] at h
    match l, h with
    | a :: b :: r, h =>
      have e : a = c ∧ b = c := by simpa using h
      show (if a = c ∧ b = c then _ else _) = _
      rw [if_pos e]
      rfl
  | n + 1, l, hn, h => by
    match l, hn, h with
    | [], _, h => unfold PairAt at h; simp at h
    | [a], _, h => unfold PairAt at h; simp at h
    | a :: b :: r, hn, h =>
      have h0 : ¬ (a = c ∧ b = c) := fun e => hn 0 (by omega) (by unfold PairAt; rw [e.1, e.2]; rfl)
      have ih := sub2_skip c z n (b :: r) (fun k hk => hn (k + 1) (by omega)) h
      show (if a = c ∧ b = c then _ else _) = _
      rw [if_neg h0, ih]
      rfl
theorem at_pair (x : Str) (c k : Nat) : StrLaws.At x ⟨#[c, c]⟩ x.length k ↔ PairAt c x.cps.toList k := by
  unfold StrLaws.At PairAt
  rw [StrLaws.subAt_eq]
  constructor
  · rintro ⟨_, h⟩
    exact eq_of_beq h
  · intro h
    refine ⟨?_, by rw [beq_iff_eq]; exact h⟩
    have h1 := congrArg List.length h
    rw [List.length_take, List.length_drop] at h1
    have h2 : x.cps.toList.length = x.length := by simp [Str.length]
    show k + 2 ≤ x.length
    simp only [List.length_cons, List.length_nil] at h1
    omega
theorem join_pairs (x z : Str) (c : Nat) : ∀ (cuts : List Nat) (a f : Nat), StrLaws.ChainG x ⟨#[c, c]⟩ x.length a cuts f → (∀ k, f ≤ k → ¬ StrLaws.At x ⟨#[c, c]⟩ x.length k) →
    (Str.join z (StrLaws.partsFrom x (⟨#[c, c]⟩ : Str).length a cuts)).cps.toList = sub2 c z.cps.toList (x.cps.toList.drop a)
  | [], a, f, h, hn => by
    have e : f = a := h
    subst e
    show (strSub x f x.length).cps.toList = _
    rw [StrLaws.strSub_toList, sub2_none]
    · exact List.take_of_length_le (by simp [Str.length])
    · intro k hk
      refine hn (f + k) (by omega) ((at_pair x c (f + k)).mpr ?_)
      unfold PairAt at hk ⊢
      rw [List.drop_drop] at hk
      exact hk
  | d :: r, a, f, h, hn => by
    obtain ⟨h1, h2, h3, h4⟩ := h
    have ih := join_pairs x z c r _ f h4 hn
    obtain ⟨p, q, e⟩ := StrLaws.partsFrom_ne x (⟨#[c, c]⟩ : Str).length (d + (⟨#[c, c]⟩ : Str).length) r
    show (Str.join z (strSub x a d :: StrLaws.partsFrom x (⟨#[c, c]⟩ : Str).length (d + (⟨#[c, c]⟩ : Str).length) r)).cps.toList = _
    rw [e] at ih ⊢
    show (strSub x a d ++ z ++ Str.join z (p :: q)).cps.toList = _
    rw [app_list, app_list, ih, StrLaws.strSub_toList]
    have hp := (at_pair x c d).mp h2
    rw [sub2_skip c _ (d - a) (x.cps.toList.drop a)]
    · rw [List.drop_drop, show a + (d - a + 2) = d + (⟨#[c, c]⟩ : Str).length by show _ = d + 2; omega]
    · intro k hk hP
      refine h3 (a + k) (by omega) (by omega) ((at_pair x c (a + k)).mpr ?_)
      unfold PairAt at hP ⊢
      rw [List.drop_drop] at hP
      exact hP
    · unfold PairAt at hp ⊢
      rw [List.drop_drop, show a + (d - a) = d by omega]
      exact hp
theorem rep2 (x z : Str) (c : Nat) : (Txt.replace x ⟨#[c, c]⟩ z).cps.toList = sub2 c z.cps.toList x.cps.toList := by
  obtain ⟨f, hG, hn⟩ := StrLaws.occ_tight x ⟨#[c, c]⟩ (by show 1 ≤ 2; decide)
  have key := join_pairs x z c _ 0 f hG hn
  rw [List.drop_zero] at key
  rw [← key]
  unfold Txt.replace
  split
  · rename_i hc
    have h2 : ((⟨#[c, c]⟩ : Str).length == 0) = false := rfl
    rw [h2, Bool.false_and, Bool.or_false] at hc
    rw [List.isEmpty_iff.mp hc]
    show x.cps.toList = (strSub x 0 x.length).cps.toList
    rw [StrLaws.sub_whole]
  · rw [StrLaws.partsBetween_eq, StrLaws.glued_eq_join]
theorem rep2' {x y z : Str} {c : Nat} {l : List Nat} (hy : y = ⟨#[c, c]⟩) (hz : z.cps.toList = l) : (Txt.replace x y z).cps.toList = sub2 c l x.cps.toList := by
  subst hy; subst hz; exact rep2 x z c
theorem und_eqL : ∀ l : List Nat, 1 ∉ l → sub1 1 [92] (sub1 92 [] (sub2 92 [1] l)) = undE false l
  | [], _ => rfl
  | [a], h => by
    have h1 : ¬ a = 1 := fun e => h (e ▸ List.mem_cons_self ..)
    by_cases ha : a = 92
    · subst ha; decide
    · simp [sub2, sub1, undE, ha, h1]
  | a :: b :: r, h => by
    have h1 : ¬ a = 1 := fun e => h (e ▸ List.mem_cons_self ..)
    have hb1 : ¬ b = 1 := fun e => h (e ▸ List.mem_cons_of_mem _ (List.mem_cons_self ..))
    have hr := fun m => h (List.mem_cons_of_mem _ m)
    have hrr := fun m => hr (List.mem_cons_of_mem _ m)
    have ih1 := und_eqL (b :: r) hr
    have ih2 := und_eqL r hrr
    by_cases ha : a = 92
    · subst ha
      by_cases hb : b = 92
      · subst hb
        show sub1 1 [92] (sub1 92 [] ([1] ++ sub2 92 [1] r)) = 92 :: undE false r
        rw [← ih2, sub1_app, sub1_app]
        rfl
      · show sub1 1 [92] (sub1 92 [] (if (92 : Nat) = 92 ∧ b = 92 then _ else 92 :: sub2 92 [1] (b :: r))) = b :: undE false r
        rw [if_neg fun x => hb x.2, sub2_cons hb, ← ih2, sub1_cons, sub1_cons, if_pos rfl, if_neg hb, List.nil_append, sub1_app, sub1_cons, if_neg hb1]
        rfl
    · show _ = if a = 92 then _ else a :: undE false (b :: r)
      rw [if_neg ha, ← ih1, sub2_cons ha, sub1_cons, if_neg ha, sub1_app, sub1_cons, if_neg h1]
      rfl
theorem und_list {x : Str} (h : 1 ∉ x.cps.toList) : (undOf x).cps.toList = undE false x.cps.toList := by
  unfold undOf
  rw [rep1' (c := 1) (l := [92]) (by decide +kernel) (by decide +kernel), rep1' (c := 92) (l := []) (by decide +kernel) (by decide +kernel), rep2' (c := 92) (l := [1]) (by decide +kernel) (by decide +kernel), und_eqL _ h]
theorem escE_snoc (c : Nat) : ∀ (l : List Nat) (e : Bool), escE e (l ++ [c]) = (!(escE e l) && c == 92)
  | [], true => by simp [escE]
  | [], false => by
    by_cases h : c = 92 <;> simp [escE, h]
  | a :: r, true => by
    show escE false (r ++ [c]) = _
    rw [escE_snoc c r false]
    rfl
  | a :: r, false => by
    show (if a = 92 then escE true (r ++ [c]) else escE false (r ++ [c])) = _
    rw [escE_snoc c r true, escE_snoc c r false]
    show _ = (!(if a = 92 then escE true r else escE false r) && c == 92)
    split <;> rfl
theorem esc_trail : ∀ l : List Nat, escE false l.reverse = ((l.takeWhile (#[92] : Array Nat).contains).length % 2 == 1)
  | [] => rfl
  | c :: r => by
    have ih := esc_trail r
    rw [List.reverse_cons, escE_snoc, ih, List.takeWhile_cons]
    by_cases h : c = 92
    · subst h
      rw [if_pos (by simp), List.length_cons]
      generalize (r.takeWhile (#[92] : Array Nat).contains).length = n
      rcases Nat.mod_two_eq_zero_or_one n with e | e
      · rw [show (n + 1) % 2 = 1 by omega, e]; rfl
      · rw [show (n + 1) % 2 = 0 by omega, e]; rfl
    · have h2 : ((#[92] : Array Nat).contains c) = false := by simpa using h
      have h3 : (c == 92) = false := by simpa using h
      rw [h2, h3, Bool.and_false]
      rfl
theorem odd_list (x : Str) : oddOf x = escE false x.cps.toList := by
  have e := esc_trail x.cps.toList.reverse
  rw [List.reverse_reverse] at e
  rw [e]
  unfold oddOf Txt.rstripChars
  have hc : (Str.ofString "\\").cps = #[92] := by decide +kernel
  rw [PyProof.Rows.stripBy_eq, hc]
  unfold stripLo stripHi
  simp only [if_true, if_false, Bool.false_eq_true, List.drop_zero]
  have hn : x.length = x.cps.toList.length := by simp [Str.length]
  have ht : (x.cps.toList.reverse.takeWhile (#[92] : Array Nat).contains).length ≤ x.length := by
    have := (List.takeWhile_sublist (p := (#[92] : Array Nat).contains) (l := x.cps.toList.reverse)).length_le
    rw [List.length_reverse] at this
    omega
  have hs : (strSub x 0 (x.length - (x.cps.toList.reverse.takeWhile (#[92] : Array Nat).contains).length)).length = x.length - (x.cps.toList.reverse.takeWhile (#[92] : Array Nat).contains).length := StrLaws.sub_len x 0 _ (by omega)
  rw [hs]
  generalize (x.cps.toList.reverse.takeWhile (#[92] : Array Nat).contains).length = k at ht
  rw [show ((x.length : Int) - ((x.length - k : Nat) : Int)) = (k : Int) by omega]
  rw [Int.fmod_eq_emod_of_nonneg _ (by decide)]
  rcases Nat.mod_two_eq_zero_or_one k with h | h
  · rw [h, show (k : Int) % 2 = 0 by omega]; rfl
  · rw [h, show (k : Int) % 2 = 1 by omega]; rfl
end Mine
end
section
open PySem PySem.W PyProof.Rows Builtin Builtin.Str
namespace Mine
set_option maxRecDepth 100000
/-- the reader's state, by lists -/
def lift (R : List (List Nat)) (P : List Nat) (e q : Bool) : PSt := (R.map ofL, ofL P, e, q)
theorem nil_ofL : Str.ofString "" = ofL [] := by decide +kernel
theorem step_esc (R P q c) : pstep (lift R P true q) c = lift R (P ++ [c]) false q := by
  show (R.map ofL, ofL P ++ ofL [c], false, q) = _
  rw [ofL_app]; rfl
theorem step_bs (R P) : pstep (lift R P false true) 92 = lift R P true true := rfl
theorem step_close (R P) : pstep (lift R P false true) 34 = lift R (P ++ [34]) false false := by
  show (R.map ofL, ofL P ++ ofL [34], false, false) = _
  rw [ofL_app]; rfl
theorem step_in (R P) {c : Nat} (h1 : ¬ c = 92) (h2 : ¬ c = 34) : pstep (lift R P false true) c = lift R (P ++ [c]) false true := by
  show (if c = 92 then _ else if c = 34 then _ else (R.map ofL, ofL P ++ ofL [c], false, true)) = _
  rw [if_neg h1, if_neg h2, ofL_app]; rfl
theorem step_comma (R P) : pstep (lift R P false false) 44 = lift (R ++ [P]) [] false false := by
  show (R.map ofL ++ [ofL P], Str.ofString "", false, false) = _
  rw [nil_ofL]
  show _ = ((R ++ [P]).map ofL, ofL [], false, false)
  rw [List.map_append]; rfl
theorem step_open (R P) : pstep (lift R P false false) 34 = lift R (P ++ [34]) false true := by
  show (R.map ofL, ofL P ++ ofL [34], false, true) = _
  rw [ofL_app]; rfl
theorem step_out (R P) {c : Nat} (h1 : ¬ c = 44) (h2 : ¬ c = 34) : pstep (lift R P false false) c = lift R (P ++ [c]) false false := by
  show (if c = 44 then _ else if c = 34 then _ else (R.map ofL, ofL P ++ ofL [c], false, false)) = _
  rw [if_neg h1, if_neg h2, ofL_app]; rfl
theorem run_quo : ∀ (l : List Nat) (e : Bool) (R : List (List Nat)) (P : List Nat), 34 ∉ l → l.foldl pstep (lift R P e true) = lift R (P ++ undE e l) (escE e l) true
  | [], e, R, P, _ => by simp [undE, escE]
  | c :: r, true, R, P, h => by
    rw [List.foldl_cons, step_esc, run_quo r false R _ fun m => h (List.mem_cons_of_mem _ m), List.append_assoc]
    rfl
  | c :: r, false, R, P, h => by
    have h34 : ¬ c = 34 := fun e => h (e ▸ List.mem_cons_self ..)
    rw [List.foldl_cons]
    unfold undE escE
    by_cases h92 : c = 92
    · subst h92
      rw [step_bs, if_pos rfl, if_pos rfl, run_quo r true R _ fun m => h (List.mem_cons_of_mem _ m)]
    · rw [step_in R P h92 h34, if_neg h92, if_neg h92, run_quo r false R _ fun m => h (List.mem_cons_of_mem _ m), List.append_assoc]
      rfl
theorem und_free : ∀ l : List Nat, 92 ∉ l → undE false l = l ∧ escE false l = false
  | [], _ => ⟨rfl, rfl⟩
  | c :: r, h => by
    have h92 : ¬ c = 92 := fun e => h (e ▸ List.mem_cons_self ..)
    have ih := und_free r fun m => h (List.mem_cons_of_mem _ m)
    unfold undE escE
    rw [if_neg h92, if_neg h92, ih.1, ih.2]
    exact ⟨rfl, rfl⟩
noncomputable def cutR (c : Nat) : List Nat → List Nat → List (List Nat)
  | _, [] => []
  | p, k :: r => if k = c then p :: cutR c [] r else cutR c (p ++ [k]) r
noncomputable def cutP (c : Nat) : List Nat → List Nat → List Nat
  | p, [] => p
  | p, k :: r => if k = c then cutP c [] r else cutP c (p ++ [k]) r
theorem split_cut (c : Nat) : ∀ (l p : List Nat), splitL c p l = cutR c p l ++ [cutP c p l]
  | [], p => rfl
  | k :: r, p => by
    unfold splitL cutR cutP
    by_cases h : k = c
    · rw [if_pos h, if_pos h, if_pos h, split_cut c r]; rfl
    · rw [if_neg h, if_neg h, if_neg h, split_cut c r]
theorem cutR_app (c : Nat) : ∀ (l p r : List Nat), cutR c p (l ++ r) = cutR c p l ++ cutR c (cutP c p l) r
  | [], p, r => rfl
  | k :: l, p, r => by
    show (if k = c then p :: cutR c [] (l ++ r) else cutR c (p ++ [k]) (l ++ r)) = _
    rw [show cutR c p (k :: l) = if k = c then p :: cutR c [] l else cutR c (p ++ [k]) l from rfl, show cutP c p (k :: l) = if k = c then cutP c [] l else cutP c (p ++ [k]) l from rfl]
    by_cases h : k = c
    · rw [if_pos h, if_pos h, if_pos h, cutR_app c l]; rfl
    · rw [if_neg h, if_neg h, if_neg h, cutR_app c l]
theorem cutP_app (c : Nat) : ∀ (l p r : List Nat), cutP c p (l ++ r) = cutP c (cutP c p l) r
  | [], p, r => rfl
  | k :: l, p, r => by
    show (if k = c then cutP c [] (l ++ r) else cutP c (p ++ [k]) (l ++ r)) = _
    rw [show cutP c p (k :: l) = if k = c then cutP c [] l else cutP c (p ++ [k]) l from rfl]
    by_cases h : k = c
    · rw [if_pos h, if_pos h, cutP_app c l]
    · rw [if_neg h, if_neg h, cutP_app c l]
theorem cut_free (c : Nat) : ∀ (l p : List Nat), c ∉ l → cutR c p l = [] ∧ cutP c p l = p ++ l
  | [], p, _ => by simp [cutR, cutP]
  | k :: r, p, h => by
    have h1 : ¬ k = c := fun e => h (e ▸ List.mem_cons_self ..)
    have ih := cut_free c r (p ++ [k]) fun m => h (List.mem_cons_of_mem _ m)
    unfold cutR cutP
    rw [if_neg h1, if_neg h1, ih.1, ih.2]
    simp
theorem run_pln : ∀ (l : List Nat) (R : List (List Nat)) (P : List Nat), 34 ∉ l → l.foldl pstep (lift R P false false) = lift (R ++ cutR 44 P l) (cutP 44 P l) false false
  | [], R, P, _ => by simp [cutR, cutP]
  | c :: r, R, P, h => by
    have h34 : ¬ c = 34 := fun e => h (e ▸ List.mem_cons_self ..)
    have hr := fun m => h (List.mem_cons_of_mem _ m)
    rw [List.foldl_cons]
    unfold cutR cutP
    by_cases h44 : c = 44
    · subst h44
      rw [step_comma, if_pos rfl, if_pos rfl, run_pln r _ _ hr, List.append_assoc]
      rfl
    · rw [step_out R P h44 h34, if_neg h44, if_neg h44, run_pln r _ _ hr]
/-- a name: one sign that is nothing's mark -/
structure NmOk (n : List Nat) : Prop where
  one : ∃ c, n = [c] ∧ Unicode.isSpace c = false ∧ c ≠ 34 ∧ c ≠ 92 ∧ c ≠ 44 ∧ c ≠ 2 ∧ c ≠ 61
structure SpOk (s : List Nat) : Prop where
  q : 34 ∉ s
  two : 2 ∉ s
def attrL (n s : List Nat) : List Nat := n ++ [61, 34] ++ s ++ [34]
noncomputable def itL (n s : List Nat) : List Nat := n ++ [61, 34] ++ undE false s ++ [34]
def tailL (d : Nat) (ps : List (List Nat × List Nat)) : List Nat := ps.flatMap fun p => [d, 32] ++ attrL p.1 p.2
theorem tailL_cons (d : Nat) (n s : List Nat) (r) : tailL d ((n, s) :: r) = [d, 32] ++ n ++ [61, 34] ++ s ++ [34] ++ tailL d r := by
  unfold tailL attrL; rw [List.flatMap_cons]; simp
theorem run_attr {n s : List Nat} (hn : NmOk n) (hs : SpOk s) (R : List (List Nat)) (pre : List Nat) : (attrL n s).foldl pstep (lift R pre false false) = lift R (pre ++ itL n s) false (escE false s) := by
  obtain ⟨c, rfl, _, h1, h2, h3, _, h4⟩ := hn.one
  unfold attrL itL
  simp only [List.foldl_append, List.foldl_cons, List.foldl_nil]
  rw [step_out R pre h3 h1, step_out R _ (by decide) (by decide), step_open, run_quo s false _ _ hs.q]
  simp only [List.append_assoc]
  cases escE false s with
  | false => rw [step_close]; simp
  | true => rw [step_esc]; simp
abbrev gg (l : List Nat) : List Nat := sub1 2 [44] l
theorem gg_free {l : List Nat} (h : 2 ∉ l) : gg l = l := sub1_free 2 _ l h
theorem cutP_gg : ∀ (s X : List Nat), 2 ∉ s → gg (cutP 44 X s) = cutP 44 (gg X) s ∧ (cutR 44 X s).map gg = cutR 44 (gg X) s
  | [], X, _ => ⟨rfl, rfl⟩
  | k :: r, X, h => by
    have h2 : ¬ k = 2 := fun e => h (e ▸ List.mem_cons_self ..)
    have hr := fun m => h (List.mem_cons_of_mem _ m)
    unfold cutP cutR
    by_cases h44 : k = 44
    · rw [if_pos h44, if_pos h44, if_pos h44, if_pos h44]
      have ih := cutP_gg r [] hr
      refine ⟨ih.1, ?_⟩
      rw [List.map_cons, ih.2]
      rfl
    · rw [if_neg h44, if_neg h44, if_neg h44, if_neg h44]
      have ih := cutP_gg r (X ++ [k]) hr
      have e : gg (X ++ [k]) = gg X ++ [k] := by
        rw [gg, sub1_app, sub1_free 2 _ [k] (by simpa using fun e => h2 e.symm)]
      rw [e] at ih
      exact ih
theorem run_inside : ∀ (ps : List (List Nat × List Nat)), (∀ p ∈ ps, NmOk p.1 ∧ SpOk p.2) → ∀ (R : List (List Nat)) (P : List Nat),
    (tailL 44 ps).foldl pstep (lift R (gg P) false true) = lift (R ++ (cutR 44 P (tailL 2 ps)).map gg) (gg (cutP 44 P (tailL 2 ps))) false true
  | [], _, R, P => by simp [tailL, cutR, cutP]
  | (n, s) :: r, h, R, P => by
    obtain ⟨hn, hs⟩ := h _ List.mem_cons_self
    obtain ⟨c, rfl, _, h1, h2, h3, h5, h4⟩ := hn.one
    have ih := run_inside r fun p hp => h p (List.mem_cons_of_mem _ hp)
    have hgc : gg (P ++ [2, 32, c, 61, 34]) = gg P ++ [44, 32, c, 61, 34] := by
      rw [gg, sub1_app]
      congr 1
      have h5' : ¬ c = 2 := h5
      simp [sub1, h5']
    have hc := cutP_gg s (P ++ [2, 32, c, 61, 34]) hs.two
    rw [hgc] at hc
    have hc44 : (44 : Nat) ∉ [2, 32, c, 61, 34] := by
      simp only [List.mem_cons, List.not_mem_nil, or_false, not_or]
      exact ⟨by decide, by decide, fun e => h3 e.symm, by decide, by decide⟩
    have e1 : tailL 2 (([c], s) :: r) = [2, 32, c, 61, 34] ++ (s ++ ([34] ++ tailL 2 r)) := by rw [tailL_cons]; simp
    have e2 : cutR 44 P (tailL 2 (([c], s) :: r)) = cutR 44 (P ++ [2, 32, c, 61, 34]) s ++ cutR 44 (cutP 44 (P ++ [2, 32, c, 61, 34]) s ++ [34]) (tailL 2 r) := by
      rw [e1, cutR_app, (cut_free 44 _ P hc44).1, (cut_free 44 _ P hc44).2, List.nil_append, cutR_app, cutR_app, (cut_free 44 [34] _ (by decide)).1, (cut_free 44 [34] _ (by decide)).2, List.nil_append]
    have e3 : cutP 44 P (tailL 2 (([c], s) :: r)) = cutP 44 (cutP 44 (P ++ [2, 32, c, 61, 34]) s ++ [34]) (tailL 2 r) := by
      rw [e1, cutP_app, (cut_free 44 _ P hc44).2, cutP_app, cutP_app, (cut_free 44 [34] _ (by decide)).2]
    rw [e2, e3, tailL_cons]
    simp only [List.foldl_append, List.foldl_cons, List.foldl_nil]
    rw [step_in R _ (by decide) (by decide), step_in R _ (by decide) (by decide), step_in R _ h2 h1, step_in R _ (by decide) (by decide), step_close, run_pln s _ _ hs.q, step_open]
    have e4 : gg P ++ [44] ++ [32] ++ [c] ++ [61] ++ [34] = gg P ++ [44, 32, c, 61, 34] := by simp
    have e5 : cutP 44 (gg P ++ [44, 32, c, 61, 34]) s ++ [34] = gg (cutP 44 (P ++ [2, 32, c, 61, 34]) s ++ [34]) := by
      rw [show gg (cutP 44 (P ++ [2, 32, c, 61, 34]) s ++ [34]) = gg (cutP 44 (P ++ [2, 32, c, 61, 34]) s) ++ gg [34] from sub1_app 2 [44] _ _, hc.1]; rfl
    rw [e4, e5, ih, List.map_append, hc.2, List.append_assoc]
theorem cutP_ne : ∀ (ps : List (List Nat × List Nat)) (P : List Nat), P ≠ [] → cutP 44 P (tailL 2 ps) ≠ []
  | [], P, h => h
  | (n, s) :: r, P, h => by
    have e1 : tailL 2 ((n, s) :: r) = ([2, 32] ++ n ++ [61, 34] ++ s) ++ ([34] ++ tailL 2 r) := by rw [tailL_cons]; simp
    rw [e1, cutP_app, cutP_app, (cut_free 44 [34] _ (by decide)).2]
    exact cutP_ne r _ (by simp)
theorem gg_ne : ∀ {l : List Nat}, l ≠ [] → gg l ≠ []
  | [], h => absurd rfl h
  | k :: r, _ => by
    rw [gg, sub1_cons]
    split <;> simp
noncomputable def toldL : List (List Nat × List Nat) → List (List Nat)
  | [] => []
  | (n, s) :: r => if escE false s = true then (splitL 44 [] (n ++ [61, 34] ++ sub1 44 [2] (undE false s) ++ [34] ++ tailL 2 r)).map (fun p => stripL (gg p)) else itL n s :: toldL r
theorem und_mem : ∀ (l : List Nat) (e : Bool) (c : Nat), c ∈ undE e l → c ∈ l
  | [], _, _, h => nomatch h
  | a :: r, true, c, h => by
    rcases List.mem_cons.mp h with rfl | h
    · exact List.mem_cons_self
    · exact List.mem_cons_of_mem _ (und_mem r false c h)
  | a :: r, false, c, h => by
    unfold undE at h
    split at h
    · exact List.mem_cons_of_mem _ (und_mem r true c h)
    · rcases List.mem_cons.mp h with rfl | h
      · exact List.mem_cons_self
      · exact List.mem_cons_of_mem _ (und_mem r false c h)
theorem gg_back : ∀ u : List Nat, 2 ∉ u → gg (sub1 44 [2] u) = u
  | [], _ => rfl
  | k :: r, h => by
    have h2 : ¬ k = 2 := fun e => h (e ▸ List.mem_cons_self ..)
    have ih := gg_back r fun m => h (List.mem_cons_of_mem _ m)
    rw [sub1_cons, gg, sub1_app]
    rw [gg] at ih
    rw [ih]
    by_cases h44 : k = 44
    · subst h44; rfl
    · rw [if_neg h44]; simp [sub1, h2]
theorem strip_it {n s pre : List Nat} (hn : NmOk n) (hp : pre = [] ∨ pre = [32]) : stripL (pre ++ itL n s) = itL n s := by
  obtain ⟨c, rfl, hsp, _⟩ := hn.one
  have e : itL [c] s = c :: (([61, 34] ++ undE false s) ++ [34]) := by unfold itL; simp
  have hst : stripL (itL [c] s) = itL [c] s := by rw [e]; exact stripL_still hsp (by decide +kernel)
  rcases hp with rfl | rfl
  · exact hst
  · show stripL (32 :: itL [c] s) = _
    rw [stripL_blank, hst]
theorem strip_pre {h pre : List Nat} (hp : pre = [] ∨ pre = [32]) : stripL (gg (pre ++ h)) = stripL (gg h) := by
  rcases hp with rfl | rfl
  · rfl
  · rw [gg, sub1_app]
    show stripL (32 :: gg h) = _
    rw [stripL_blank]
theorem run_main : ∀ (r : List (List Nat × List Nat)) (n s : List Nat), NmOk n → SpOk s → (∀ p ∈ r, NmOk p.1 ∧ SpOk p.2) → ∀ (R : List (List Nat)) (pre : List Nat), pre = [] ∨ pre = [32] →
    ∃ R' P' e q, (attrL n s ++ tailL 44 r).foldl pstep (lift R pre false false) = lift R' P' e q ∧ P' ≠ [] ∧ (R' ++ [P']).map stripL = R.map stripL ++ toldL ((n, s) :: r) := by
  intro r
  induction r with
  | nil =>
    intro n s hn hs _ R pre hp
    refine ⟨R, pre ++ itL n s, false, escE false s, ?_, by unfold itL; simp, ?_⟩
    · rw [show tailL 44 [] = [] from rfl, List.append_nil, run_attr hn hs R pre]
    · rw [List.map_append, List.map_singleton, strip_it hn hp]
      unfold toldL
      congr 1
      split
      · have h44 : stripL (gg (n ++ [61, 34] ++ sub1 44 [2] (undE false s) ++ [34] ++ tailL 2 [])) = itL n s := by
          have e : gg (n ++ [61, 34] ++ sub1 44 [2] (undE false s) ++ [34] ++ tailL 2 []) = itL n s := by
            obtain ⟨c, rfl, hsp, h1, h2, h3, h5, h4⟩ := hn.one
            have h5' : (2 : Nat) ∉ [c] ++ [61, 34] := by
              simp only [List.mem_append, List.mem_cons, List.not_mem_nil, or_false, not_or]
              exact ⟨fun e => h5 e.symm, by decide, by decide⟩
            rw [show tailL 2 [] = [] from rfl, List.append_nil, gg, sub1_app, sub1_app, sub1_free 2 _ _ h5', show sub1 2 [44] (sub1 44 [2] (undE false s)) = _ from gg_back _ fun m => hs.two (und_mem s _ _ m)]
            rfl
          rw [e]
          exact strip_it (pre := []) hn (.inl rfl)
        rw [splitL_free 44 _ _ ?_, List.map_singleton, List.nil_append, h44]
        obtain ⟨c, rfl, hsp, h1, h2, h3, h5, h4⟩ := hn.one
        intro m
        rw [show tailL 2 [] = [] from rfl, List.append_nil] at m
        simp only [List.mem_append, List.mem_cons, List.not_mem_nil, or_false] at m
        rcases m with ((m | m | m) | m) | m
        · exact h3 m.symm
        · exact absurd m (by decide)
        · exact absurd m (by decide)
        · unfold sub1 at m
          obtain ⟨a, _, ha⟩ := List.mem_flatMap.mp m
          split at ha
          · exact absurd (List.mem_singleton.mp ha) (by decide)
          · rename_i hne
            exact hne (List.mem_singleton.mp ha).symm
        · exact absurd m (by decide)
      · rfl
  | cons p2 r ih =>
    obtain ⟨n2, s2⟩ := p2
    intro n s hn hs hr R pre hp
    obtain ⟨hn2, hs2⟩ := hr _ List.mem_cons_self
    rw [List.foldl_append, run_attr hn hs R pre]
    cases he : escE false s with
    | false =>
      have e1 : tailL 44 ((n2, s2) :: r) = 44 :: 32 :: (attrL n2 s2 ++ tailL 44 r) := by rw [tailL_cons]; unfold attrL; simp
      rw [e1, List.foldl_cons, List.foldl_cons, step_comma, step_out _ _ (by decide) (by decide)]
      obtain ⟨R', P', e, q, h1, h2, h3⟩ := ih n2 s2 hn2 hs2 (fun p hp => hr p (List.mem_cons_of_mem _ hp)) (R ++ [pre ++ itL n s]) [32] (.inr rfl)
      refine ⟨R', P', e, q, h1, h2, ?_⟩
      rw [h3, List.map_append, List.map_singleton, strip_it hn hp, List.append_assoc]
      congr 1
      rw [show toldL ((n, s) :: (n2, s2) :: r) = if escE false s = true then _ else itL n s :: toldL ((n2, s2) :: r) from rfl, he]
      rfl
    | true =>
      have hg : gg (pre ++ (n ++ [61, 34] ++ sub1 44 [2] (undE false s) ++ [34])) = pre ++ itL n s := by
        obtain ⟨c, rfl, hsp, h1, h2, h3, h5, h4⟩ := hn.one
        have h5' : (2 : Nat) ∉ [c] ++ [61, 34] := by
          simp only [List.mem_append, List.mem_cons, List.not_mem_nil, or_false, not_or]
          exact ⟨fun e => h5 e.symm, by decide, by decide⟩
        have hp2 : (2 : Nat) ∉ pre := by rcases hp with rfl | rfl <;> decide
        rw [gg, sub1_app, sub1_app, sub1_app, sub1_free 2 _ _ h5', sub1_free 2 _ pre hp2, show sub1 2 [44] (sub1 44 [2] (undE false s)) = _ from gg_back _ fun m => hs.two (und_mem s _ _ m)]
        rfl
      rw [← hg, run_inside ((n2, s2) :: r) hr]
      refine ⟨_, _, _, _, rfl, gg_ne (cutP_ne _ _ (by simp)), ?_⟩
      rw [List.append_assoc, List.map_append]
      congr 1
      rw [show toldL ((n, s) :: (n2, s2) :: r) = if escE false s = true then (splitL 44 [] (n ++ [61, 34] ++ sub1 44 [2] (undE false s) ++ [34] ++ tailL 2 ((n2, s2) :: r))).map (fun p => stripL (gg p)) else _ from rfl, if_pos he]
      have h44 : (44 : Nat) ∉ n ++ [61, 34] ++ sub1 44 [2] (undE false s) ++ [34] := by
        obtain ⟨c, rfl, hsp, h1, h2, h3, h5, h4⟩ := hn.one
        intro m
        simp only [List.mem_append, List.mem_cons, List.not_mem_nil, or_false] at m
        rcases m with ((m | m | m) | m) | m
        · exact h3 m.symm
        · exact absurd m (by decide)
        · exact absurd m (by decide)
        · unfold sub1 at m
          obtain ⟨a, _, ha⟩ := List.mem_flatMap.mp m
          split at ha
          · exact absurd (List.mem_singleton.mp ha) (by decide)
          · rename_i hne
            exact hne (List.mem_singleton.mp ha).symm
        · exact absurd m (by decide)
      rw [splitL_skip 44 _ [] _ h44, List.nil_append]
      obtain ⟨h, t, e1, e2⟩ := splitL_pre 44 pre (tailL 2 ((n2, s2) :: r)) (n ++ [61, 34] ++ sub1 44 [2] (undE false s) ++ [34])
      rw [e1]
      rw [split_cut] at e2
      have e3 : (cutR 44 (pre ++ (n ++ [61, 34] ++ sub1 44 [2] (undE false s) ++ [34])) (tailL 2 ((n2, s2) :: r))).map gg ++ [gg (cutP 44 (pre ++ (n ++ [61, 34] ++ sub1 44 [2] (undE false s) ++ [34])) (tailL 2 ((n2, s2) :: r)))] = ((pre ++ h) :: t).map gg := by
        rw [← e2, List.map_append]; rfl
      rw [e3, List.map_map, List.map_cons, List.map_cons]
      show stripL (gg (pre ++ h)) :: _ = _
      rw [strip_pre hp]
      rfl
theorem run_even : ∀ (r : List (List Nat × List Nat)) (n s : List Nat), NmOk n → SpOk s → escE false s = false → (∀ p ∈ r, NmOk p.1 ∧ SpOk p.2 ∧ escE false p.2 = false) → ∀ (R : List (List Nat)) (pre : List Nat), pre = [] ∨ pre = [32] →
    ∃ R' P', (attrL n s ++ tailL 44 r).foldl pstep (lift R pre false false) = lift R' P' false false ∧ (R' ++ [P']).map stripL = R.map stripL ++ ((n, s) :: r).map (fun p => itL p.1 p.2) := by
  intro r
  induction r with
  | nil =>
    intro n s hn hs he _ R pre hp
    refine ⟨R, pre ++ itL n s, ?_, ?_⟩
    · rw [show tailL 44 [] = [] from rfl, List.append_nil, run_attr hn hs R pre, he]
    · rw [List.map_append, List.map_singleton, strip_it hn hp]
      rfl
  | cons p2 r ih =>
    obtain ⟨n2, s2⟩ := p2
    intro n s hn hs he hr R pre hp
    obtain ⟨hn2, hs2, he2⟩ := hr _ List.mem_cons_self
    have e1 : tailL 44 ((n2, s2) :: r) = 44 :: 32 :: (attrL n2 s2 ++ tailL 44 r) := by rw [tailL_cons]; unfold attrL; simp
    rw [List.foldl_append, run_attr hn hs R pre, he, e1, List.foldl_cons, List.foldl_cons, step_comma, step_out _ _ (by decide) (by decide)]
    obtain ⟨R', P', h1, h3⟩ := ih n2 s2 hn2 hs2 he2 (fun p hp => hr p (List.mem_cons_of_mem _ hp)) (R ++ [pre ++ itL n s]) [32] (.inr rfl)
    refine ⟨R', P', h1, ?_⟩
    rw [h3, List.map_append, List.map_singleton, strip_it hn hp, List.append_assoc]
    rfl
end Mine
end
section
open PySem PySem.W PyProof.Rows Builtin Builtin.Str
namespace Mine
set_option maxRecDepth 100000
theorem mapL_inj : ∀ {a b : List Str}, a.map (·.cps.toList) = b.map (·.cps.toList) → a = b
  | [], [], _ => rfl
  | [], _ :: _, h => by simp at h
  | _ :: _, [], h => by simp at h
  | x :: a, y :: b, h => by
    rw [List.map_cons, List.map_cons] at h
    injection h with h1 h2
    rw [strExt h1, mapL_inj h2]
def lp (p : Str × Str) : List Nat × List Nat := (p.1.cps.toList, p.2.cps.toList)
theorem eq_list : (Str.ofString "=\"").cps.toList = [61, 34] := by decide +kernel
theorem qu_list : (Str.ofString "\"").cps.toList = [34] := by decide +kernel
theorem attr_list (n s : Str) : (attr n s).cps.toList = attrL n.cps.toList s.cps.toList := by
  unfold attr attrL
  rw [app_list, app_list, app_list, eq_list, qu_list]
theorem more_list (p : Str × Str) : (more p).cps.toList = [2, 32] ++ attrL (lp p).1 (lp p).2 := by
  unfold more attrL lp
  rw [app_list, app_list, app_list, app_list, eq_list, qu_list, show (Str.ofString "\x02 ").cps.toList = [2, 32] by decide +kernel]
  simp
theorem fold_more : ∀ (r : List (Str × Str)) (w : Str), (r.foldl (fun a p => a ++ more p) w).cps.toList = w.cps.toList ++ tailL 2 (r.map lp)
  | [], w => by simp [tailL]
  | p :: r, w => by
    rw [List.foldl_cons, fold_more r, app_list, more_list, List.map_cons]
    show _ = _ ++ tailL 2 (((lp p).1, (lp p).2) :: r.map lp)
    rw [tailL_cons]
    unfold attrL
    simp
theorem told_list : ∀ ps : List (Str × Str), (∀ p ∈ ps, 1 ∉ p.2.cps.toList) → (toldOf ps).map (·.cps.toList) = toldL (ps.map lp)
  | [], _ => rfl
  | (n, s) :: r, h => by
    have ih := told_list r fun p hp => h p (List.mem_cons_of_mem _ hp)
    have h1 := h (n, s) List.mem_cons_self
    rw [List.map_cons]
    show (if oddOf s = true then _ else _ : List Str).map _ = if escE false s.cps.toList = true then _ else _
    rw [odd_list]
    split
    · rw [List.map_map]
      have hc : Str.ofString "," = (⟨#[44]⟩ : Str) := by decide +kernel
      have hw : (whl n s r).cps.toList = n.cps.toList ++ [61, 34] ++ sub1 44 [2] (undE false s.cps.toList) ++ [34] ++ tailL 2 (r.map lp) := by
        unfold whl
        rw [fold_more, app_list, app_list, app_list, eq_list, qu_list, rep1' (c := 44) (l := [2]) hc (by decide +kernel), und_list h1]
      change _ = List.map (fun p => stripL (gg p)) (splitL 44 [] (n.cps.toList ++ [61, 34] ++ sub1 44 [2] (undE false s.cps.toList) ++ [34] ++ tailL 2 (r.map lp)))
      rw [← hw, hc, ← split_list, List.map_map]
      refine List.map_congr_left fun p _ => ?_
      show (Txt.strip (Txt.replace p (Str.ofString "\x02") ⟨#[44]⟩)).cps.toList = stripL (gg p.cps.toList)
      rw [strip_list, rep1' (c := 2) (l := [44]) (by decide +kernel) rfl]
    · rw [List.map_cons, ih]
      congr 1
      show (n ++ Str.ofString "=\"" ++ undOf s ++ Str.ofString "\"").cps.toList = _
      rw [app_list, app_list, app_list, eq_list, qu_list, und_list h1]
      rfl
theorem join_attrs : ∀ (r : List (Str × Str)) (p : Str × Str), (Txt.join (Str.ofString ", ") ((p :: r).map fun q => attr q.1 q.2)).cps.toList = attrL (lp p).1 (lp p).2 ++ tailL 44 (r.map lp) := by
  have hs : (Str.ofString ", ").cps.toList = [44, 32] := by decide +kernel
  intro r
  unfold Txt.join
  simp only [StrLaws.glued_eq_join]
  induction r with
  | nil =>
    intro p
    show (attr p.1 p.2).cps.toList = _
    rw [attr_list]
    simp [tailL, lp]
  | cons q r ih =>
    intro p
    show (attr p.1 p.2 ++ Str.ofString ", " ++ Str.join (Str.ofString ", ") ((q :: r).map fun q => attr q.1 q.2)).cps.toList = _
    rw [app_list, app_list, ih q, attr_list, hs]
    show _ = _ ++ tailL 44 (((lp q).1, (lp q).2) :: r.map lp)
    rw [tailL_cons]
    unfold attrL lp
    simp
theorem par_list {x : Str} {R P e q} (h : x.cps.toList.foldl pstep (lift [] [] false false) = lift R P e q) (hP : P ≠ []) : (parOf x).map (·.cps.toList) = (R ++ [P]).map stripL := by
  have h' : prun x.cps.toList = lift R P e q := by
    rw [← h]
    show x.cps.toList.foldl pstep ([], Str.ofString "", false, false) = x.cps.toList.foldl pstep ([], ofL [], false, false)
    rw [nil_ofL]
  unfold parOf
  rw [h']
  show ((if (ofL P).length = 0 then _ else R.map ofL ++ [ofL P]).map Txt.strip).map _ = _
  rw [if_neg (by rw [ofL_len]; exact fun e => hP (List.eq_nil_of_length_eq_zero e)), List.map_append, List.map_append, List.map_append, List.map_map, List.map_map]
  have e : ((fun x : Str => x.cps.toList) ∘ Txt.strip) ∘ ofL = stripL := funext fun l => strip_list (ofL l)
  rw [e]
  show _ ++ [(Txt.strip (ofL P)).cps.toList] = _
  rw [strip_list]
  rfl
/-- the names -/
theorem name_list : ∀ i, i < 7 → (nameAt i).cps.toList = [97 + i] := by decide +kernel
theorem name_sp : ∀ i, i < 7 → Unicode.isSpace (97 + i) = false := by decide +kernel
theorem name_ok {i : Nat} (h : i < 7) : NmOk (nameAt i).cps.toList := ⟨⟨97 + i, name_list i h, name_sp i h, by omega, by omega, by omega, by omega, by omega⟩⟩
theorem zip_same {α β γ : Type} (f : α → β) (g : α → γ) : ∀ l : List α, (l.map f).zip (l.map g) = l.map fun a => (f a, g a)
  | [] => rfl
  | a :: r => by rw [List.map_cons, List.map_cons, List.zip_cons_cons, zip_same f g r]; rfl
theorem vals_range (vals : List Str) : vals = (List.range vals.length).map fun i => vals.getD i Str.empty := by
  apply List.ext_getElem?
  intro i
  rw [List.getElem?_map]
  by_cases hi : i < vals.length
  · rw [List.getElem?_range hi, List.getElem?_eq_getElem hi]
    show _ = some (vals.getD i Str.empty)
    rw [List.getD_eq_getElem?_getD, List.getElem?_eq_getElem hi]; rfl
  · rw [List.getElem?_eq_none (by omega), List.getElem?_eq_none (by rw [List.length_range]; omega)]
    rfl
theorem pairs_range (vals : List Str) (g : Str → Str) : (namesOf vals.length).zip (vals.map g) = (List.range vals.length).map fun i => (nameAt i, g (vals.getD i Str.empty)) := by
  have e : vals.map g = (List.range vals.length).map fun i => g (vals.getD i Str.empty) := by
    conv => lhs; rw [vals_range vals]
    rw [List.map_map]; rfl
  rw [e]
  exact zip_same _ _ _
/-- the signs of values -/
def Tame (l : List Nat) : Prop := ∀ c ∈ l, c ≠ 1 ∧ c ≠ 2 ∧ c < 128
theorem spC_tame {hand : Int} (hh : hand = 0 ∨ hand = 1 ∨ hand = 2) {c : Nat} (hc : c ≠ 1 ∧ c ≠ 2 ∧ c < 128) : ∀ k ∈ (spC hand c).cps.toList, k ≠ 1 ∧ k ≠ 2 ∧ k < 128 ∧ k ≠ 34 := by
  have q1 : ∀ k ∈ [38, 97, 109, 112, 59], k ≠ 1 ∧ k ≠ 2 ∧ k < 128 ∧ k ≠ 34 := by decide
  have q2 : ∀ k ∈ [38, 108, 116, 59], k ≠ 1 ∧ k ≠ 2 ∧ k < 128 ∧ k ≠ 34 := by decide
  have q3 : ∀ k ∈ [38, 103, 116, 59], k ≠ 1 ∧ k ≠ 2 ∧ k < 128 ∧ k ≠ 34 := by decide
  have q4 : ∀ k ∈ [38, 113, 117, 111, 116, 59], k ≠ 1 ∧ k ≠ 2 ∧ k < 128 ∧ k ≠ 34 := by decide
  rcases hh with rfl | rfl | rfl
  · rw [spC_0]
    repeat' split
    all_goals first | assumption | (intro k hk; rw [List.mem_singleton.mp hk]; exact ⟨hc.1, hc.2.1, hc.2.2, by assumption⟩)
  · rw [spC_1]
    repeat' split
    all_goals first | assumption | (intro k hk; rw [List.mem_singleton.mp hk]; exact ⟨hc.1, hc.2.1, hc.2.2, by assumption⟩)
  · rw [spC_2]
    repeat' split
    all_goals first | assumption | (intro k hk; rw [List.mem_singleton.mp hk]; exact ⟨hc.1, hc.2.1, hc.2.2, by assumption⟩)
theorem spL_tame {hand : Int} (hh : hand = 0 ∨ hand = 1 ∨ hand = 2) {l : List Nat} (h : Tame l) : ∀ k ∈ spL hand l, k ≠ 1 ∧ k ≠ 2 ∧ k < 128 ∧ k ≠ 34 := by
  intro k hk
  unfold spL at hk
  obtain ⟨c, hc, hk⟩ := List.mem_flatMap.mp hk
  exact spC_tame hh (h c hc) k hk
theorem sp_ok {hand : Int} (hh : hand = 0 ∨ hand = 1 ∨ hand = 2) {y : Str} (h : Tame y.cps.toList) : SpOk (splOf hand y).cps.toList ∧ 1 ∉ (splOf hand y).cps.toList := by
  rw [spl_list]
  have := spL_tame hh h
  exact ⟨⟨fun m => (this _ m).2.2.2 rfl, fun m => (this _ m).2.1 rfl⟩, fun m => (this _ m).1 rfl⟩
def D92 (l : List Nat) : List Nat := sub1 92 [92, 92] l
theorem und_dbl : ∀ l : List Nat, undE false (D92 l) = l ∧ escE false (D92 l) = false
  | [] => ⟨rfl, rfl⟩
  | c :: r => by
    have ih := und_dbl r
    unfold D92 at *
    rw [sub1_cons]
    by_cases h : c = 92
    · subst h
      rw [if_pos rfl]
      show (92 :: undE false (sub1 92 [92, 92] r) = _) ∧ escE false (sub1 92 [92, 92] r) = false
      rw [ih.1]
      exact ⟨rfl, ih.2⟩
    · rw [if_neg h]
      show ((if c = 92 then undE true (sub1 92 [92, 92] r) else c :: undE false (sub1 92 [92, 92] r)) = _) ∧ ((if c = 92 then escE true (sub1 92 [92, 92] r) else escE false (sub1 92 [92, 92] r)) = false)
      rw [if_neg h, if_neg h, ih.1]
      exact ⟨rfl, ih.2⟩
theorem spC_bs {hand : Int} (hh : hand = 0 ∨ hand = 1 ∨ hand = 2) {c : Nat} (hc : ¬ c = 92) : 92 ∉ (spC hand c).cps.toList := by
  rcases hh with rfl | rfl | rfl
  · rw [spC_0]
    repeat' split
    all_goals first | decide | (intro m; exact hc (List.mem_singleton.mp m).symm)
  · rw [spC_1]
    repeat' split
    all_goals first | decide | (intro m; exact hc (List.mem_singleton.mp m).symm)
  · rw [spC_2]
    repeat' split
    all_goals first | decide | (intro m; exact hc (List.mem_singleton.mp m).symm)
theorem spC_92 {hand : Int} (hh : hand = 0 ∨ hand = 1 ∨ hand = 2) : (spC hand 92).cps.toList = [92] := by
  rcases hh with rfl | rfl | rfl <;> decide +kernel
theorem sp_dbl {hand : Int} (hh : hand = 0 ∨ hand = 1 ∨ hand = 2) : ∀ l : List Nat, spL hand (D92 l) = D92 (spL hand l)
  | [] => rfl
  | c :: r => by
    have ih := sp_dbl hh r
    unfold D92 at *
    rw [sub1_cons, spL_cons, sub1_app, ← ih]
    by_cases h : c = 92
    · subst h
      rw [if_pos rfl, spC_92 hh]
      show spL hand (92 :: 92 :: sub1 92 [92, 92] r) = _
      rw [spL_cons, spL_cons, spC_92 hh]
      rfl
    · rw [if_neg h, sub1_free 92 _ _ (spC_bs hh h)]
      show spL hand (c :: sub1 92 [92, 92] r) = _
      rw [spL_cons]
theorem spl_dbl {hand : Int} (hh : hand = 0 ∨ hand = 1 ∨ hand = 2) (y : Str) : (splOf hand (dbl y)).cps.toList = D92 (splOf hand y).cps.toList := by
  rw [spl_list, spl_list, dbl_list, ← sp_dbl hh]
  rfl
end Mine
end
section
open PySem PySem.W PyProof.Rows Builtin Builtin.Str
namespace Mine
set_option maxRecDepth 100000
/-- all signs below 128 -/
def Low (l : List Nat) : Prop := ∀ c ∈ l, c < 128
theorem low_ok {x : Str} (h : Low x.cps.toList) : PyData.strOk x = true := by
  unfold PyData.strOk
  rw [← Array.all_toList, List.all_eq_true]
  intro c hc
  exact decide_eq_true (Nat.lt_of_lt_of_le (h c hc) (by decide))
structure PLow (σ : PSt) : Prop where
  res : ∀ y ∈ σ.1, Low y.cps.toList
  part : Low σ.2.1.cps.toList
theorem low_snoc {x : Str} {c : Nat} (h : Low x.cps.toList) (hc : c < 128) : Low (x ++ ⟨#[c]⟩).cps.toList := by
  rw [app_list]
  intro k hk
  rcases List.mem_append.mp hk with hk | hk
  · exact h k hk
  · rw [List.mem_singleton.mp hk]; exact hc
theorem pstep_low {σ : PSt} {c : Nat} (h : PLow σ) (hc : c < 128) : PLow (pstep σ c) := by
  obtain ⟨res, part, e, q⟩ := σ
  obtain ⟨h1, h2⟩ := h
  have h3 := low_snoc (x := part) h2 hc
  cases e <;> cases q <;> simp only [pstep] <;> (repeat' split) <;> first | exact ⟨h1, h3⟩ | exact ⟨h1, h2⟩ | skip
  refine ⟨fun y hy => ?_, fun k hk => ?_⟩
  · rcases List.mem_append.mp hy with hy | hy
    · exact h1 y hy
    · rw [List.mem_singleton.mp hy]; exact h2
  · rw [show (Str.ofString "").cps.toList = [] by decide +kernel] at hk
    nomatch hk
theorem prun_low : ∀ (l : List Nat) (σ : PSt), PLow σ → Low l → PLow (l.foldl pstep σ)
  | [], _, h, _ => h
  | c :: r, σ, h, hl => prun_low r _ (pstep_low h (hl c List.mem_cons_self)) fun k hk => hl k (List.mem_cons_of_mem _ hk)
theorem strip_low {x : Str} (h : Low x.cps.toList) : Low (Txt.strip x).cps.toList := by
  rw [strip_list]
  intro c hc
  unfold stripL at hc
  have h1 := (List.dropWhile_sublist _).subset (List.mem_reverse.mp hc)
  exact h c ((List.dropWhile_sublist _).subset (List.mem_reverse.mp h1))
theorem par_low {x : Str} (h : Low x.cps.toList) : ∀ y ∈ parOf x, Low y.cps.toList := by
  have hp : PLow (prun x.cps.toList) := prun_low _ _ ⟨fun y hy => (nomatch hy), fun k hk => by
    replace hk : k ∈ (Str.ofString "").cps.toList := hk
    rw [show (Str.ofString "").cps.toList = [] by decide +kernel] at hk
    nomatch hk⟩ h
  intro y hy
  unfold parOf at hy
  obtain ⟨z, hz, rfl⟩ := List.mem_map.mp hy
  refine strip_low ?_
  split at hz
  · exact hp.res z hz
  · rcases List.mem_append.mp hz with hz | hz
    · exact hp.res z hz
    · rw [List.mem_singleton.mp hz]; exact hp.part
/-- split at the first equals sign -/
theorem split_eq {k v : Str} (hk : ∃ c, k.cps.toList = [c] ∧ c ≠ 61) : Txt.splitMax (k ++ Str.ofString "=" ++ v) "=" 1 = [k, v] := by
  obtain ⟨c, hk, hc⟩ := hk
  have he : Str.ofString "=" = (⟨#[61]⟩ : Str) := by decide +kernel
  rw [he]
  have hx : (k ++ (⟨#[61]⟩ : Str) ++ v).cps.toList = c :: 61 :: v.cps.toList := by
    rw [app_list, app_list, hk]; rfl
  generalize hX : k ++ (⟨#[61]⟩ : Str) ++ v = x at hx
  have hl : x.length = v.cps.toList.length + 2 := by
    have : x.length = x.cps.toList.length := by simp [Str.length]
    rw [this, hx]; rfl
  have ha1 : StrLaws.At x ⟨#[61]⟩ x.length 1 := (StrLaws.subAt_one x 61 1).mpr (by rw [hx]; rfl)
  have ha0 : ¬ StrLaws.At x ⟨#[61]⟩ x.length 0 := fun h => by
    have := (StrLaws.subAt_one x 61 0).mp h
    rw [hx] at this
    exact hc (by simpa using this)
  have hlim : limitOf x 1 = 1 := rfl
  have hocc : occurrences x ⟨#[61]⟩ 0 x.length 1 = [1] := by
    have hle := StrLaws.occ_length_le x ⟨#[61]⟩ 0 x.length 1
    rcases StrLaws.occ_head x ⟨#[61]⟩ 1 (Nat.le_refl 1) with ⟨_, h⟩ | ⟨i, r, e, hi, hn⟩
    · exact absurd ha1 (h 1)
    · rw [e] at hle ⊢
      have hr : r = [] := List.eq_nil_of_length_eq_zero (by rw [List.length_cons] at hle; omega)
      have h1 : ¬ 1 < i := fun h => hn 1 h ha1
      have h0 : i ≠ 0 := fun h => ha0 (h ▸ hi)
      rw [hr, show i = 1 by omega]
  have hkind : Builtin.Str.strKind ⟨#[61]⟩ = 1 := by decide +kernel
  have hk1 : 1 ≤ Builtin.Str.strKind x := by
    unfold Builtin.Str.strKind
    repeat' split
    all_goals decide
  have hy1 : (⟨#[61]⟩ : Str).length = 1 := rfl
  unfold Txt.splitMax
  rw [if_neg (by rw [hkind, hy1, hl]; simp; omega), hlim, hocc, if_neg (by decide), StrLaws.partsBetween_eq]
  show [strSub x 0 1, strSub x 2 x.length] = [k, v]
  have e1 : strSub x 0 1 = k := strExt (by rw [StrLaws.strSub_toList, hx, hk]; rfl)
  have e2 : strSub x 2 x.length = v := strExt (by rw [StrLaws.strSub_toList, hx]; exact List.take_of_length_le (by show v.cps.toList.length ≤ x.length - 2; omega))
  rw [e1, e2]
theorem quo_list (s : Str) : (quo s).cps.toList = 34 :: (s.cps.toList ++ [34]) := by
  unfold quo
  rw [app_list, app_list, qu_list]
  rfl
theorem unq_quo (s : Str) : unq (quo s) = s := by
  have hl := quo_list s
  have hlen : (quo s).length = s.cps.toList.length + 2 := by
    have : (quo s).length = (quo s).cps.toList.length := by simp [Str.length]
    rw [this, hl]; simp
  have hq : Str.ofString "\"" = (⟨#[34]⟩ : Str) := by decide +kernel
  have g0 : (quo s).cps[0]? = some 34 := by rw [← Array.getElem?_toList, hl]; rfl
  have gn : (quo s).cps[((-1 : Int) + (quo s).length).toNat]? = some 34 := by
    rw [← Array.getElem?_toList, hl, hlen, show ((-1 : Int) + ((s.cps.toList.length + 2 : Nat) : Int)).toNat = s.cps.toList.length + 1 by omega, List.getElem?_cons_succ, List.getElem?_append_right (Nat.le_refl _)]
    simp
  have i0 : Txt.item (quo s) 0 = ⟨#[34]⟩ := by
    unfold Txt.item Txt.charAt
    rw [StrLaws.at_nonneg (Int.le_refl 0) g0]
    rfl
  have i1 : Txt.item (quo s) (-1) = ⟨#[34]⟩ := by
    unfold Txt.item Txt.charAt
    rw [StrLaws.at_neg (by decide) (by rw [hlen]; omega) gn]
    rfl
  unfold unq
  rw [i0, i1, hq, if_pos (by decide), if_pos (by decide)]
  show StrLaws.sliceText (quo s) (some 1) (some (-1)) = s
  rw [StrLaws.sliceText_neg_hi (quo s) (some 1) (by decide) (by rw [hlen]; omega), StrLaws.sliceText_plain ⟨by decide, by rw [hlen]; omega, by rw [hl, hlen]; simp; omega⟩]
  apply strExt
  show ((quo s).cps.toList.drop (1 : Int).toNat).take _ = _
  rw [hl, hlen, show ((-1 : Int) + ((s.cps.toList.length + 2 : Nat) : Int) - 1).toNat = s.cps.toList.length by omega]
  show (s.cps.toList ++ [34]).take s.cps.toList.length = _
  rw [List.take_append_of_le_length (Nat.le_refl _), List.take_length]
end Mine
end
section
open PySem PySem.W PyProof.Rows Builtin Builtin.Str
namespace Mine
set_option maxRecDepth 100000
theorem pairs_eq (hand : Int) (vals : List Str) : pairsOf hand vals = (List.range vals.length).map fun i => (nameAt i, splOf hand (vals.getD i Str.empty)) := pairs_range vals (splOf hand)
def pairsD (hand : Int) (vals : List Str) : List (Str × Str) := (List.range vals.length).map fun i => (nameAt i, splOf hand (dbl (vals.getD i Str.empty)))
theorem bare_eq (hand : Int) (vals : List Str) : bareOf hand vals = Txt.join (Str.ofString ", ") ((pairsOf hand vals).map fun q => attr q.1 q.2) := by
  rw [pairs_eq, List.map_map]; rfl
theorem dbd_eq (hand : Int) (vals : List Str) : dbdOf hand vals = Txt.join (Str.ofString ", ") ((pairsD hand vals).map fun q => attr q.1 q.2) := by
  unfold pairsD
  rw [List.map_map]; rfl
theorem yz_run (R P) : [44, 32, 121, 61, 120, 34, 34, 44, 32, 122, 61, 34, 120].foldl pstep (lift R P false false) = lift (R ++ [P] ++ [[32, 121, 61, 120, 34, 34]]) [32, 122, 61, 34, 120] false true := by
  simp only [List.foldl_cons, List.foldl_nil]
  rw [step_comma, step_out _ _ (by decide) (by decide), step_out _ _ (by decide) (by decide), step_out _ _ (by decide) (by decide), step_out _ _ (by decide) (by decide), step_open, step_close, step_comma, step_out _ _ (by decide) (by decide), step_out _ _ (by decide) (by decide), step_out _ _ (by decide) (by decide), step_open, step_in _ _ (by decide) (by decide)]
  rfl
section
variable {hand : Int} {vals : List Str} (hh : hand = 0 ∨ hand = 1 ∨ hand = 2) (hn : vals.length ≤ 7) (ht : ∀ y ∈ vals, Tame y.cps.toList)
include ht in
theorem tame_get {i : Nat} (hi : i < vals.length) : Tame (vals.getD i Str.empty).cps.toList := by
  rw [List.getD_eq_getElem?_getD, List.getElem?_eq_getElem hi]
  exact ht _ (List.getElem_mem hi)
theorem tame_dbl {y : Str} (h : Tame y.cps.toList) : Tame (dbl y).cps.toList := by
  rw [dbl_list]
  intro c hc
  rcases sub1_mem (c := c) hc with rfl | hc
  · decide
  · exact h c hc
include hh hn ht in
theorem pairs_ok : ∀ q ∈ pairsOf hand vals, NmOk q.1.cps.toList ∧ SpOk q.2.cps.toList ∧ 1 ∉ q.2.cps.toList := by
  intro q hq
  rw [pairs_eq] at hq
  obtain ⟨i, hi, rfl⟩ := List.mem_map.mp hq
  have hi := List.mem_range.mp hi
  have h := sp_ok hh (tame_get ht hi)
  exact ⟨name_ok (by omega), h.1, h.2⟩
include hh hn ht in
theorem pairs_low : ∀ q ∈ pairsOf hand vals, Low q.1.cps.toList ∧ Low q.2.cps.toList := by
  intro q hq
  rw [pairs_eq] at hq
  obtain ⟨i, hi, rfl⟩ := List.mem_map.mp hq
  have hi := List.mem_range.mp hi
  constructor
  · intro c hc
    rw [show (nameAt i, splOf hand (vals.getD i Str.empty)).1 = nameAt i from rfl, name_list i (by omega)] at hc
    have := List.mem_singleton.mp hc
    omega
  · intro c hc
    replace hc : c ∈ (splOf hand (vals.getD i Str.empty)).cps.toList := hc
    rw [spl_list] at hc
    exact (spL_tame hh (tame_get ht hi) c hc).2.2.1
include hh hn ht in
theorem pairsD_ok : ∀ q ∈ pairsD hand vals, NmOk q.1.cps.toList ∧ SpOk q.2.cps.toList ∧ escE false q.2.cps.toList = false := by
  intro q hq
  obtain ⟨i, hi, rfl⟩ := List.mem_map.mp hq
  have hi := List.mem_range.mp hi
  have h := sp_ok hh (tame_dbl (tame_get ht hi))
  refine ⟨name_ok (by omega), h.1, ?_⟩
  show escE false (splOf hand (dbl (vals.getD i Str.empty))).cps.toList = false
  rw [spl_dbl hh]
  exact (und_dbl _).2
include hh hn ht in
theorem bare_law (hne : vals ≠ []) : parOf (bareOf hand vals) = toldOf (pairsOf hand vals) := by
  have hok := pairs_ok hh hn ht
  rw [bare_eq]
  cases hp : pairsOf hand vals with
  | nil =>
    have h1 := congrArg List.length hp
    rw [pairs_eq, List.length_map, List.length_range] at h1
    exact absurd (List.eq_nil_of_length_eq_zero h1) hne
  | cons p r =>
    rw [hp] at hok
    have h0 := hok p List.mem_cons_self
    obtain ⟨R', P', e, q, h1, h2, h3⟩ := run_main (r.map lp) (lp p).1 (lp p).2 h0.1 h0.2.1 (fun a ha => by
      obtain ⟨b, hb, rfl⟩ := List.mem_map.mp ha
      have := hok b (List.mem_cons_of_mem _ hb)
      exact ⟨this.1, this.2.1⟩) [] [] (.inl rfl)
    rw [← join_attrs] at h1
    apply mapL_inj
    rw [par_list h1 h2, h3, told_list _ fun a ha => (hok a ha).2.2]
    rfl
include hh hn ht in
theorem dbd_law (hne : vals ≠ []) : parOf (dbdOf hand vals ++ Str.ofString ", y=x\"\", z=\"x") = ysOf hand vals := by
  have hok := pairsD_ok hh hn ht
  rw [dbd_eq]
  have hys : (ysOf hand vals).map (·.cps.toList) = ((pairsD hand vals).map lp).map (fun p => itL p.1 p.2) ++ [[121, 61, 120, 34, 34], [122, 61, 34, 120]] := by
    unfold ysOf psOf
    rw [pairs_eq]
    unfold pairsD
    simp only [List.map_append, List.map_map]
    congr 1
    · refine List.map_congr_left fun i _ => ?_
      show (nameAt i ++ Str.ofString "=" ++ quo (splOf hand (vals.getD i Str.empty))).cps.toList = itL (nameAt i).cps.toList (splOf hand (dbl (vals.getD i Str.empty))).cps.toList
      unfold itL
      rw [app_list, app_list, quo_list, spl_dbl hh, (und_dbl _).1, show (Str.ofString "=").cps.toList = [61] by decide +kernel]
      simp
  cases hp : pairsD hand vals with
  | nil =>
    have h1 := congrArg List.length hp
    unfold pairsD at h1
    rw [List.length_map, List.length_range] at h1
    exact absurd (List.eq_nil_of_length_eq_zero h1) hne
  | cons p r =>
    rw [hp] at hok hys
    have h0 := hok p List.mem_cons_self
    obtain ⟨R', P', h1, h3⟩ := run_even (r.map lp) (lp p).1 (lp p).2 h0.1 h0.2.1 h0.2.2 (fun a ha => by
      obtain ⟨b, hb, rfl⟩ := List.mem_map.mp ha
      exact hok b (List.mem_cons_of_mem _ hb)) [] [] (.inl rfl)
    rw [← join_attrs] at h1
    have h4 : (Txt.join (Str.ofString ", ") ((p :: r).map fun q => attr q.1 q.2) ++ Str.ofString ", y=x\"\", z=\"x").cps.toList.foldl pstep (lift [] [] false false) = lift (R' ++ [P'] ++ [[32, 121, 61, 120, 34, 34]]) [32, 122, 61, 34, 120] false true := by
      rw [app_list, List.foldl_append, h1, show (Str.ofString ", y=x\"\", z=\"x").cps.toList = [44, 32, 121, 61, 120, 34, 34, 44, 32, 122, 61, 34, 120] by decide +kernel, yz_run]
    apply mapL_inj
    rw [par_list h4 (by decide), hys, List.map_append, List.map_append, h3, show [[32, 121, 61, 120, 34, 34]].map stripL = [[121, 61, 120, 34, 34]] by decide +kernel, show [[32, 122, 61, 34, 120]].map stripL = [[122, 61, 34, 120]] by decide +kernel, List.append_assoc]
    rfl
theorem name_nodup : ∀ n, n ≤ 7 → (namesOf n ++ [Str.ofString "y", Str.ofString "z"]).Nodup := by decide +kernel
theorem ps_fst : (psOf hand vals).map (·.1) = namesOf vals.length ++ [Str.ofString "y", Str.ofString "z"] := by
  unfold psOf
  rw [pairs_eq, List.map_append, List.map_map, List.map_map]
  rfl
include hh hn ht in
theorem plain_of (hne : vals ≠ []) : Plain hand vals where
  bare := bare_law hh hn ht hne
  ok := by
    rw [← bare_law hh hn ht hne]
    intro x hx
    refine low_ok (par_low ?_ x hx)
    have hlow := pairs_low hh hn ht
    rw [bare_eq]
    cases hp : pairsOf hand vals with
    | nil =>
      intro c hc
      replace hc : c ∈ ([] : List Nat) := hc
      nomatch hc
    | cons p r =>
      rw [hp] at hlow
      rw [join_attrs]
      have hat : ∀ q ∈ p :: r, Low (attrL (lp q).1 (lp q).2) := fun q hq c hc => by
        have := hlow q hq
        unfold attrL at hc
        simp only [List.mem_append, List.mem_cons, List.not_mem_nil, or_false] at hc
        rcases hc with ((hc | hc | hc) | hc) | hc
        · exact this.1 c hc
        · omega
        · omega
        · exact this.2 c hc
        · omega
      intro c hc
      rcases List.mem_append.mp hc with hc | hc
      · exact hat p List.mem_cons_self c hc
      · unfold tailL at hc
        obtain ⟨a, ha, hc⟩ := List.mem_flatMap.mp hc
        obtain ⟨b, hb, rfl⟩ := List.mem_map.mp ha
        rcases List.mem_append.mp hc with hc | hc
        · simp only [List.mem_cons, List.not_mem_nil, or_false] at hc
          omega
        · exact hat b (List.mem_cons_of_mem _ hb) c hc
  dbd := dbd_law hh hn ht hne
  split := by
    intro i y k v hy hp
    unfold ysOf at hy
    rw [List.getElem?_map, hp] at hy
    have e : k ++ Str.ofString "=" ++ v = y := Option.some.inj hy
    rw [← e]
    refine split_eq ?_
    have hm := List.mem_of_getElem? hp
    rcases List.mem_append.mp hm with hm | hm
    · obtain ⟨q, hq, e⟩ := List.mem_map.mp hm
      obtain ⟨c, hc, _, _, _, _, _, h61⟩ := (pairs_ok hh hn ht q hq).1.one
      have e1 : q.1 = k := congrArg Prod.fst e
      exact ⟨c, by rw [← e1]; exact hc, h61⟩
    · rcases List.mem_cons.mp hm with hm | hm
      · have e1 : k = Str.ofString "y" := congrArg Prod.fst hm
        exact ⟨121, by rw [e1]; decide +kernel, by decide⟩
      · have e1 : k = Str.ofString "z" := congrArg Prod.fst (List.mem_singleton.mp hm)
        exact ⟨122, by rw [e1]; decide +kernel, by decide⟩
  nodup := by rw [ps_fst]; exact name_nodup _ hn
  unq := by
    unfold psOf
    rw [List.map_append, List.map_map]
    congr 1
    · conv => rhs; rw [← List.map_id (pairsOf hand vals)]
      refine List.map_congr_left fun q _ => ?_
      show (q.1, unq (quo q.2)) = q
      rw [unq_quo]
  pok := fun q hq => ⟨low_ok (pairs_low hh hn ht q hq).1, low_ok (pairs_low hh hn ht q hq).2⟩
end
/-- the values -/
def Fine (l : List Nat) : Prop := ∀ c ∈ l, c ≠ 1 ∧ c ≠ 2 ∧ c < 128 ∧ c ≠ 9 ∧ c ≠ 10 ∧ c ≠ 13
theorem item_fine {i : Int} (h : 0 ≤ i ∧ i < 8) : Fine (Txt.item (Str.ofString "\\,\"&\\>x ") i).cps.toList ∧ (Txt.item (Str.ofString "\\,\"&\\>x ") i).cps.toList.length = 1 := by
  obtain rfl | rfl | rfl | rfl | rfl | rfl | rfl | rfl : i = 0 ∨ i = 1 ∨ i = 2 ∨ i = 3 ∨ i = 4 ∨ i = 5 ∨ i = 6 ∨ i = 7 := by omega
  all_goals (unfold Fine; decide +kernel)
theorem val_fine (n : Int) : Fine (valOf n).cps.toList ∧ (valOf n).length ≤ 3 := by
  have h4 : 0 ≤ n.fmod 4 ∧ n.fmod 4 < 4 := ⟨Int.fmod_nonneg_of_pos _ (by decide), Int.fmod_lt_of_pos _ (by decide)⟩
  have hlen : (rangeKs 0 (n.fmod 4 - 0).toNat).length ≤ 3 := by rw [rangeKs_length]; omega
  have hi : ∀ a : Int, 0 ≤ ((n.fdiv 4).fdiv (8 ^ a.toNat)).fmod 8 ∧ ((n.fdiv 4).fdiv (8 ^ a.toNat)).fmod 8 < 8 := fun a => ⟨Int.fmod_nonneg_of_pos _ (by decide), Int.fmod_lt_of_pos _ (by decide)⟩
  have key : (valOf n).cps.toList = (rangeKs 0 (n.fmod 4 - 0).toNat).flatMap fun a => (Txt.item (Str.ofString "\\,\"&\\>x ") (((n.fdiv 4).fdiv (8 ^ a.toNat)).fmod 8)).cps.toList := by
    unfold valOf
    rw [join_nil, List.flatMap_map]
  constructor
  · rw [key]
    intro c hc
    obtain ⟨a, _, hc⟩ := List.mem_flatMap.mp hc
    exact (item_fine (hi a)).1 c hc
  · have e : (valOf n).length = (valOf n).cps.toList.length := by simp [Str.length]
    rw [e, key]
    generalize rangeKs 0 (n.fmod 4 - 0).toNat = l at hlen
    refine Nat.le_trans ?_ hlen
    clear hlen e key
    induction l with
    | nil => exact Nat.zero_le _
    | cons a r ih =>
      rw [List.flatMap_cons, List.length_append, (item_fine (hi a)).2, List.length_cons]
      omega
theorem vals_fine (nums : List Int) : ∀ y ∈ valsOf nums, Fine y.cps.toList ∧ y.length ≤ 10 := by
  intro y hy
  unfold valsOf at hy
  rcases List.mem_append.mp hy with hy | hy
  · rcases List.mem_append.mp hy with hy | hy
    · rw [List.mem_singleton.mp hy]
      unfold Fine
      decide +kernel
    · obtain ⟨n, _, rfl⟩ := List.mem_map.mp hy
      exact ⟨(val_fine n).1, Nat.le_trans (val_fine n).2 (by decide)⟩
  · rw [List.mem_singleton.mp hy]
    unfold Fine
    decide +kernel
theorem plain_all (hand : Int) (nums : List Int) (hh : hand = 0 ∨ hand = 1 ∨ hand = 2) (hn : nums.length ≤ 5) : Plain hand (valsOf nums) :=
  plain_of hh (by unfold valsOf; simp only [List.length_append, List.length_map, List.length_singleton]; omega) (fun y hy c hc => by
    have := (vals_fine nums y hy).1 c hc
    exact ⟨this.1, this.2.1, this.2.2.1⟩) (by unfold valsOf; simp)
theorem vals_len (nums : List Int) : ∀ y ∈ valsOf nums, y.length ≤ 10 := fun y hy => (vals_fine nums y hy).2
theorem vals_calm (nums : List Int) : ∀ y ∈ valsOf nums, Calm y.cps.toList := fun y hy c hc => by
  have := (vals_fine nums y hy).1 c hc
  exact ⟨this.2.2.2.1, this.2.2.2.2.1, this.2.2.2.2.2⟩
end Mine
end
set_option maxRecDepth 100000 in
set_option maxHeartbeats 8000000 in
theorem PySem.Challenge.cw_pg0113_01_holds : PySem.Challenge.rw_pg0113_01.Holds :=
  Mine.law_holds Mine.plain_all Mine.vals_len Mine.vals_calm
#print axioms PySem.Challenge.cw_pg0113_01_holds
