import PyProof.Rows.All
import Wide.All
import OpenK.AllK
import Wide.FinOn
import Lean
import PySem.Challenge.RW_oc0089_01
open PySem PySem.W PyProof.Rows PySem.Calls PySem.Spec
set_option Elab.async false
set_option maxRecDepth 100000
set_option maxHeartbeats 16000000
-- HD
namespace Mine
open_top hd for PySem.Challenge.rw_oc0089_01
theorem top_off : True := by w_top off; trivial
-- S3
def med (x y z : Nat) : Nat := max (min x y) (min (max x y) z)
abbrev ch (x : Nat) : Str := ⟨#[x]⟩
theorem lt1 (x y : Nat) : decide ((ch x).cps.toList < (ch y).cps.toList) = decide (x < y) := by
  simp [List.cons_lt_cons_iff]

section
variable {prog : Program} {w : World} {A : Around} {E : Value → Shared → Prop} {s : Shared} {h₀ : Heap} {L : Addr} {m : Str → Option Value} {news : List (Addr × Obj)} {Q : Value → Shared → Prop}

theorem sorted3 {l : Addr} {n : Nat} {x y z : Nat} {tx ty tz : Tok} (F : Fr h₀ L s.heap m) (N : News h₀ L s.heap news) (hl : (l, PySem.W.listOf #[.str (ch x) tx, .str (ch y) ty, .str (ch z) tz] n) ∈ news)
    (h : ∀ D c h' a b t1 t2 t3, Fr h₀ L h' m → News h₀ L h' ((D, PySem.W.listOf #[.str (ch a) t1, .str (ch (med x y z)) t2, .str (ch b) t3] c) :: news) → (∀ q ∈ news, q.1 < D) → Q (.ref D) { s with heap := h' }) :
    wpAny (model prog w) A (call (.builtin "sorted") [.ref l]) Q E s := by
  refine kas_sorted (vs := [.str (ch x) tx, .str (ch y) ty, .str (ch z) tz]) (T := Value.type "str") F N (kso_isList N hl rfl) (Nat.le_of_ble_eq_true rfl) (Nat.le_of_ble_eq_true rfl) ?_ rfl ?_
  · intro h F' N' v hv
    simp only [List.mem_cons, List.not_mem_nil, or_false] at hv
    rcases hv with rfl | rfl | rfl <;> exact Looks.of_pure rfl
  · intro D e1 h' F' N' hD
    have fin : ∀ (s' : Shared) (p : List Nat) (a b : Nat) (t1 t2 t3 : Tok), s' = { s with heap := h' } → (p.map fun i => [Value.str (ch x) tx, .str (ch y) ty, .str (ch z) tz].getD i Value.none) = [.str (ch a) t1, .str (ch (med x y z)) t2, .str (ch b) t3] →
        KasFin h₀ L m D e1 (p.map fun i => [Value.str (ch x) tx, .str (ch y) ty, .str (ch z) tz].getD i Value.none) (fun s'' => Q (.ref D) s'') s' := by
      intro s' p a b t1 t2 t3 es e
      subst es
      rw [e]
      exact KasFin.intro F' N' (UpdF.head (fun q hq => Nat.ne_of_lt (hD q hq))) fun h'' c F'' N'' => h D c h'' a b t1 t2 t3 F'' N'' hD
    repeat' (first
      | kas_known
      | kas_step
      | (with_reducible refine kas_lt_str ?_)
      | (with_reducible refine kas_split (fun hk => ?_) (fun hk => ?_) <;> (rw [lt1] at hk; simp only [decide_eq_true_eq, decide_eq_false_iff_not] at hk))
      | fail "no")
    all_goals (dsimp only [List.toList_toArray])
    all_goals (first
      | (exfalso; omega)
      | exact fin _ [0, 1, 2] x z tx ty tz rfl (by rw [show med x y z = y by unfold med; omega]; rfl)
      | exact fin _ [0, 2, 1] x y tx tz ty rfl (by rw [show med x y z = z by unfold med; omega]; rfl)
      | exact fin _ [1, 0, 2] y z ty tx tz rfl (by rw [show med x y z = x by unfold med; omega]; rfl)
      | exact fin _ [1, 2, 0] y x ty tz tx rfl (by rw [show med x y z = z by unfold med; omega]; rfl)
      | exact fin _ [2, 0, 1] z y tz tx ty rfl (by rw [show med x y z = x by unfold med; omega]; rfl)
      | exact fin _ [2, 1, 0] z x tz ty tx rfl (by rw [show med x y z = y by unfold med; omega]; rfl))
end
-- B0
/-- a def's contract: from any frame of a def, over any ledger that bears `own` -/
def Says (lv : Nat) (w : World) (f : Addr) (vs : List Value) (own : List (Addr × Obj)) (post : Value → List (Addr × Obj) → Prop) : Prop :=
  ∀ (mean : ExcName → Option Value) (mg mb : Str → Option Value) (dp un : Nat) (gd : Option (List Code)) (cn : Str) (cs : Scope) (a : Addr) (ccd : Value) (cl : List (Str × Addr)) (outer : List Env) (A₀ : Around) (base h₀ : Heap) (L : Addr) (m : Str → Option Value) (news : List (Addr × Obj)) (s : Shared)
    (Q E : Value → Shared → Prop),
    Below A₀ base outer h₀ → Fr h₀ L s.heap m → (Mine.hd.heap_39 w.params).In h₀ → News h₀ L s.heap news →
    Top Mine.hd.view_39 (looseW Mine.hd.view_39 [Str.ofString "_filemode_table"]) mean mg mb h₀ → cs.kind = .function →
    dp + lv < recursionLimit → un + 8 * lv < cLine → (∀ p ∈ own, p ∈ news) →
    (∀ r tl h' tk', post r tl → Fr h₀ L h' m → News h₀ L h' (tl ++ news) → (∀ p ∈ tl, LCg.Off1 p.1 news) → Q r { s with heap := h', toks := tk' }) →
    wpAny (model PySem.Challenge.rw_oc0089_01.row.prog w) (ktrTop dp un gd cn cs L a ccd cl outer) (call (.ref f) vs) Q E s

theorem Says.use {lv : Nat} {w : World} {f : Addr} {vs : List Value} {own : List (Addr × Obj)} {post : Value → List (Addr × Obj) → Prop} (C : Says lv w f vs own post)
    {mean : ExcName → Option Value} {mg mb : Str → Option Value} {dp un : Nat} {gd : Option (List Code)} {cn : Str} {cs : Scope} {a : Addr} {ccd : Value} {cl : List (Str × Addr)} {outer : List Env} {A₀ : Around} {base h₀ : Heap} {L : Addr} {m : Str → Option Value} {news : List (Addr × Obj)} {s : Shared}
    {Q E : Value → Shared → Prop}
    (B : Below A₀ base outer h₀) (F : Fr h₀ L s.heap m) (X : (Mine.hd.heap_39 w.params).In h₀) (N : News h₀ L s.heap news)
    (T : Top Mine.hd.view_39 (looseW Mine.hd.view_39 [Str.ofString "_filemode_table"]) mean mg mb h₀) (hk : cs.kind = .function)
    (hd : dp + lv < recursionLimit) (hu : un + 8 * lv < cLine) (hs : ∀ p ∈ own, p ∈ news)
    (ret : ∀ r tl h' tk', post r tl → Fr h₀ L h' m → News h₀ L h' (tl ++ news) → (∀ p ∈ tl, LCg.Off1 p.1 news) → Q r { s with heap := h', toks := tk' }) :
    wpAny (model PySem.Challenge.rw_oc0089_01.row.prog w) (ktrTop dp un gd cn cs L a ccd cl outer) (call (.ref f) vs) Q E s :=
  C _ _ _ _ _ _ _ _ _ _ _ _ _ _ _ _ _ _ _ _ _ B F X N T hk hd hu hs ret

theorem lvl {dp k j : Nat} (h : dp + k < recursionLimit) (hk : j + 1 ≤ k) : dp + 1 + j < recursionLimit := by omega
theorem lvlU {un k j : Nat} (h : un + 8 * k < cLine) (hk : j + 1 ≤ k) : un + 3 + 8 * j < cLine := by omega
theorem off1_of {D : Addr} : ∀ {l : List (Addr × Obj)}, (∀ q ∈ l, D ≠ q.1) → LCg.Off1 D l
  | [], _ => trivial
  | p :: _, h => ⟨fun e => h p (.head _) e.symm, off1_of fun q hq => h q (.tail _ hq)⟩

/-- what the callee kept, back at the caller's ledger -/
theorem back {h₀ g h' : Heap} {L L' : Addr} {m' : Str → Option Value} {s : Shared} {news own all : List (Addr × Obj)} (N : News h₀ L s.heap news) (hs : ∀ p ∈ own, p ∈ news)
    (hg : ∀ b o, s.heap.get? b = some o → b ∉ own.map (·.1) → g.get? b = some o) (F' : Fr g L' h' m') (N' : News g L' h' all) (NN : News h₀ L h' all) (tl : List (Addr × Obj))
    (htl : ∀ p ∈ tl, p ∈ all) (hown : ∀ p ∈ own, p ∈ all) (hoff : ∀ p ∈ tl, ∀ q ∈ own, p.1 ≠ q.1) :
    News h₀ L h' (tl ++ news) ∧ ∀ p ∈ tl, LCg.Off1 p.1 news := by
  have key : ∀ q ∈ news, (q ∈ own) ∨ g.get? q.1 = some q.2 := fun q hq => by
    by_cases hm : q.1 ∈ own.map (·.1)
    · obtain ⟨p, hp, e⟩ := List.mem_map.mp hm
      have h1 := (N p (hs p hp)).1
      have h2 := (N q hq).1
      have e' : p.1 = q.1 := e
      rw [e', h2] at h1
      have : p = q := Prod.ext e' (Option.some.inj h1).symm
      exact .inl (this ▸ hp)
    · exact .inr (hg _ _ (N q hq).1 hm)
  refine ⟨fun q hq => ?_, fun p hp => off1_of fun q hq e => ?_⟩
  · rcases List.mem_append.mp hq with hq | hq
    · exact NN q (htl q hq)
    · rcases key q hq with h | h
      · exact NN q (hown q h)
      · exact ⟨F'.keep _ _ h, (N q hq).2⟩
  · rcases key q hq with h | h
    · exact hoff p hp q h e
    · have h1 := (N' p (htl p hp)).2.2
      rw [e, h] at h1
      cases h1

/-- a contract's end: nothing made is handed back -/
theorem fin0 {h₀ g h' : Heap} {L L' : Addr} {m m' : Str → Option Value} {s : Shared} {news own all : List (Addr × Obj)} {Q : Value → Shared → Prop} {post : Value → List (Addr × Obj) → Prop} {r : Value} {tk : Nat} (Nn : News h₀ L s.heap news) (hs : ∀ p ∈ own, p ∈ news)
    (hg : ∀ b o, s.heap.get? b = some o → b ∉ own.map (·.1) → g.get? b = some o)
    (hret : ∀ r tl h' tk', post r tl → Fr h₀ L h' m → News h₀ L h' (tl ++ news) → (∀ p ∈ tl, LCg.Off1 p.1 news) → Q r { s with heap := h', toks := tk' })
    (F' : Fr g L' h' m') (N' : News g L' h' all) (F : Fr h₀ L h' m) (NN : News h₀ L h' all) (hown : ∀ p ∈ own, p ∈ all) (hp : post r []) : Q r { s with heap := h', toks := tk } :=
  let hb := back Nn hs hg F' N' NN [] (List.forall_mem_nil _) hown (List.forall_mem_nil _)
  hret r [] h' tk hp F hb.1 hb.2
/-- a contract's end: one made object is handed back -/
theorem fin1 {h₀ g h' : Heap} {L L' : Addr} {m m' : Str → Option Value} {s : Shared} {news own all : List (Addr × Obj)} {Q : Value → Shared → Prop} {post : Value → List (Addr × Obj) → Prop} {D : Addr} {o : Obj} {tk : Nat} (Nn : News h₀ L s.heap news) (hs : ∀ p ∈ own, p ∈ news)
    (hg : ∀ b o, s.heap.get? b = some o → b ∉ own.map (·.1) → g.get? b = some o)
    (hret : ∀ r tl h' tk', post r tl → Fr h₀ L h' m → News h₀ L h' (tl ++ news) → (∀ p ∈ tl, LCg.Off1 p.1 news) → Q r { s with heap := h', toks := tk' })
    (F' : Fr g L' h' m') (N' : News g L' h' all) (F : Fr h₀ L h' m) (NN : News h₀ L h' all) (hown : ∀ p ∈ own, p ∈ all) (hm : (D, o) ∈ all) (hoff : ∀ q ∈ own, D ≠ q.1) (hp : post (.ref D) [(D, o)]) : Q (.ref D) { s with heap := h', toks := tk } :=
  let hb := back Nn hs hg F' N' NN [(D, o)] (List.forall_mem_cons.mpr ⟨hm, List.forall_mem_nil _⟩) hown (List.forall_mem_cons.mpr ⟨hoff, List.forall_mem_nil _⟩)
  hret _ [(D, o)] h' tk hp F hb.1 hb.2
/-- a contract's end: a made tuple of two made lists is handed back -/
theorem fin3 {h₀ g h' : Heap} {L L' : Addr} {m m' : Str → Option Value} {s : Shared} {news own all : List (Addr × Obj)} {Q : Value → Shared → Prop} {post : Value → List (Addr × Obj) → Prop} {D D1 D2 : Addr} {o o1 o2 : Obj} {tk : Nat} (Nn : News h₀ L s.heap news) (hs : ∀ p ∈ own, p ∈ news)
    (hg : ∀ b o, s.heap.get? b = some o → b ∉ own.map (·.1) → g.get? b = some o)
    (hret : ∀ r tl h' tk', post r tl → Fr h₀ L h' m → News h₀ L h' (tl ++ news) → (∀ p ∈ tl, LCg.Off1 p.1 news) → Q r { s with heap := h', toks := tk' })
    (F' : Fr g L' h' m') (N' : News g L' h' all) (F : Fr h₀ L h' m) (NN : News h₀ L h' all) (hown : ∀ p ∈ own, p ∈ all) (hm : (D, o) ∈ all) (hm1 : (D1, o1) ∈ all) (hm2 : (D2, o2) ∈ all) (hoff : ∀ q ∈ own, D ≠ q.1) (hoff1 : ∀ q ∈ own, D1 ≠ q.1) (hoff2 : ∀ q ∈ own, D2 ≠ q.1)
    (hp : post (.ref D) [(D, o), (D1, o1), (D2, o2)]) : Q (.ref D) { s with heap := h', toks := tk } :=
  let hb := back Nn hs hg F' N' NN [(D, o), (D1, o1), (D2, o2)] (List.forall_mem_cons.mpr ⟨hm, List.forall_mem_cons.mpr ⟨hm1, List.forall_mem_cons.mpr ⟨hm2, List.forall_mem_nil _⟩⟩⟩) hown (List.forall_mem_cons.mpr ⟨hoff, List.forall_mem_cons.mpr ⟨hoff1, List.forall_mem_cons.mpr ⟨hoff2, List.forall_mem_nil _⟩⟩⟩)
  hret _ [(D, o), (D1, o1), (D2, o2)] h' tk hp F hb.1 hb.2

section
variable {prog : Program} {w : World} {A A₀ : Around} {s : Shared} {K : Frag} {L : Addr} {h₀ base : Heap} {m mg mb : Str → Option Value} {news : List (Addr × Obj)} {p : Program} {loose : List Str} {mean : ExcName → Option Value}

/-- a def without cells is entered: what stood and is not on the ledger stands below -/
theorem enterH {env : Env} {outer : List Env} {R : Result → Shared → Prop} {name qual : Str} {params : Arguments} {body : List Stmt} {scope : Scope} {dV kV doc pm cdv ct oc : Value} {an od : Option Addr} {osl : Array (Option Value)} {f : Addr} {args : Args} {binds : List (Str × Value)}
    (B : Below A₀ base outer h₀) (F : Fr h₀ L s.heap m) (X₀ : K.In h₀) (N : News h₀ L s.heap news) (T : Top p loose mean mg mb h₀) (hA : A.frames = some (env :: outer)) (hf : env.frame = some L) (hke : env.scope.kind = .function)
    (ho : K.lookup f = some ⟨oc, od, .func (fnOf name qual params body scope dV kV doc pm an cdv ct), osl⟩) (hcd : codeIn K cdv qual = true) (hroom : A.depth < recursionLimit)
    (hbind : BindsTo s (fnOf name qual params body scope dV kV doc pm an cdv ct) args binds) (hloc : ∀ y ∈ binds, scope.names.lookup y.1 = some .local)
    (h : ∀ g L' h₁, Fr h₀ L g m → Fr g L' h₁ (fun y => binds.reverse.lookup y) → News g L' h₁ news → Below A base (env :: outer) g → K.In g → Top p loose mean mg mb g → (∀ b o, s.heap.get? b = some o → b ∉ news.map (·.1) → g.get? b = some o) →
      wpAny (model prog w) (A.deeper (envOf qual scope L' f cdv)) (execs body (envOf qual scope L' f cdv))
        (fun fl s' => LeaveK h₀ L m g R (match fl with | .ret v => v | _ => .none) s')
        (fun e s' => wpAny (model prog w) (A.deeper (envOf qual scope L' f cdv)) (leaving (envOf qual scope L' f cdv) e) (fun _ s'' => R (.error e) s'') (fun e' s'' => R (.error e') s'') s')
        { s with heap := h₁, toks := s.toks + binds.length })
    (hco : scope.isCoroutine = false) (hgen : scope.isGenerator = false) (hk : scope.kind = .function)
    (hcell : ∀ x ∈ scope.names, x.2 ≠ .cell) : codeAny (model prog w) A (.call (.ref f) args) R s := by
  obtain ⟨FG, BG, st, lv⟩ := groundX (R := R) B F N hA hf hke
  refine codeAny_call_def (fd := fnOf name qual params body scope dV kV doc pm an cdv ct) (body := body) (binds := binds) hroom ((X₀.keeps F.keep) _ _ ho) rfl (T.nolimit.keeps F.keep) (codeRec_of (X₀.keeps F.keep) hcd) rfl hbind hcell hloc (fun h₁ hns hk₁ => ?_) hco hgen hk
  exact wpAny_mono (h _ s.heap.objs.size h₁ FG ⟨hns, fun b o e => hk₁ b o (of_hideAll _ e), Nat.le_of_eq (hideAll_size _ _)⟩
    (fun p hp => ⟨hk₁ _ _ (N p hp).1, Nat.ne_of_lt (Heap.lt_size (N p hp).1), hideAll_none _ (List.mem_map_of_mem hp)⟩) BG (X₀.keeps st) (T.keeps st) (fun b o e q => hideAll_get _ e q)) (fun fl s' hl => lv _ _ hl) fun _ _ y => y

/-- a def with cells is entered -/
theorem enterCH {env : Env} {outer : List Env} {R : Result → Shared → Prop} {name qual : Str} {params : Arguments} {body : List Stmt} {scope : Scope} {dV kV doc pm cdv ct oc : Value} {an od : Option Addr} {osl : Array (Option Value)} {f : Addr} {args : Args} {binds : List (Str × Value)}
    (B : Below A₀ base outer h₀) (F : Fr h₀ L s.heap m) (X₀ : K.In h₀) (N : News h₀ L s.heap news) (T : Top p loose mean mg mb h₀) (hA : A.frames = some (env :: outer)) (hf : env.frame = some L) (hke : env.scope.kind = .function)
    (ho : K.lookup f = some ⟨oc, od, .func (fnOf name qual params body scope dV kV doc pm an cdv ct), osl⟩) (hcd : codeIn K cdv qual = true) (hroom : A.depth < recursionLimit)
    (hbind : BindsTo s (fnOf name qual params body scope dV kV doc pm an cdv ct) args binds) (hkind : (binds.all fun y => scope.names.lookup y.1 == some .local || scope.names.lookup y.1 == some .cell) = true)
    (hnd : ((cellsFrom 0 scope.names []).map (·.1)).Nodup)
    (h : ∀ g L' h₁ tk cells, Fr h₀ L g m → Fr g L' h₁ (bindL (envOfC qual scope L' f cdv).kindOf binds fun _ => none) → News g L' h₁ (cells ++ news) →
      CellsAre (bindC (envOfC qual scope L' f cdv).kindOf binds fun _ => none) (cellsFrom (L' + 1) scope.names []) cells → Below A base (env :: outer) g → K.In g → Top p loose mean mg mb g → (∀ p ∈ news, p.1 < L') → (∀ b o, s.heap.get? b = some o → b ∉ news.map (·.1) → g.get? b = some o) →
      wpAny (model prog w) (A.deeper (envOfC qual scope L' f cdv)) (execs body (envOfC qual scope L' f cdv))
        (fun fl s' => LeaveK h₀ L m g R (match fl with | .ret v => v | _ => .none) s')
        (fun e s' => wpAny (model prog w) (A.deeper (envOfC qual scope L' f cdv)) (leaving (envOfC qual scope L' f cdv) e) (fun _ s'' => R (.error e) s'') (fun e' s'' => R (.error e') s'') s')
        { s with heap := h₁, toks := tk })
    (hco : scope.isCoroutine = false) (hgen : scope.isGenerator = false) (hk : scope.kind = .function) : codeAny (model prog w) A (.call (.ref f) args) R s := by
  obtain ⟨FG, BG, st, lv⟩ := groundX (R := R) B F N hA hf hke
  refine codeAny_call_function hroom ((X₀.keeps F.keep) _ _ ho) rfl hco hgen rfl (codeRec_of (X₀.keeps F.keep) hcd) (hbind _ _ _ _ ?_)
  refine wpAny_newFunctionEnv_cells hk (kindsX hkind _) fun env' he s' x => ?_
  subst he
  refine ⟨(T.nolimit.keeps F.keep).keeps x.toInCall.keep, codeAny_func ?_⟩
  obtain ⟨h₁, tk, rfl, _⟩ := x.done
  have hk₁ := x.toInCall.keep
  obtain ⟨cells, NC, Y⟩ := Cl.news (h₀ := s.heap) (Nat.le_refl _) fun n c hm => ⟨x.cell n c (lookup_of_mem_nodup (cellsFrom_names scope.names 0 (s.heap.objs.size + 1) [] [] rfl ▸ hnd) hm), x.above n c hm⟩
  refine wpAny_mono (h _ s.heap.objs.size h₁ tk cells FG ⟨x.toInCall.ns, fun b o e => hk₁ b o (of_hideAll _ e), Nat.le_of_eq (hideAll_size _ _)⟩ (fun p hp => ?_) Y BG (X₀.keeps st) (T.keeps st) (fun p hp => Heap.lt_size (N p hp).1) (fun b o e q => hideAll_get _ e q)) (fun fl s' hl => lv _ _ hl) fun _ _ y => y
  rcases List.mem_append.mp hp with hp | hp
  · refine ⟨(NC p hp).1, (NC p hp).2.1, ?_⟩
    cases q : (hideAll s.heap (news.map (·.1))).get? p.1 with
    | none => rfl
    | some o => have := of_hideAll _ q; rw [(NC p hp).2.2] at this; cases this
  · exact ⟨hk₁ _ _ (N p hp).1, Nat.ne_of_lt (Heap.lt_size (N p hp).1), hideAll_none _ (List.mem_map_of_mem hp)⟩
end
-- C1n
theorem median_C (w : World) (l : Addr) (n x y z : Nat) (tx ty tz : Tok) :
    Says 4 w 34 [.ref l] [(l, PySem.W.listOf #[.str (ch x) tx, .str (ch y) ty, .str (ch z) tz] n)]
      (fun r tl => (∃ t, r = .str (ch (med x y z)) t) ∧ tl = []) := by
  unfold Says
  k_fill
  intro mean mg mb dp un gd cn cs a ccd cl outer A₀ base h₀ L m news s Q E B F X Nn T hk hd hu hs hret
  have N := cb_drop Nn hs
  refine wpAny_call ?_
  k_dflt (refine' enterH ?k1 ?k2 ?k3 ?k4 ?k5 ?kA ?kF ?kK ?k6 ?k7 ?k8 ?k9 ?kB ?_ ?c2 ?c3 ?c4 ?c5; (case kA => exact rfl); (case kF => exact rfl); (case kK => assumption); (case k1 => k_asm); (case k2 => k_asm); (case k3 => k_asm); (case k4 => exact N); (case k5 => k_asm); (case k6 => k_is); (case k7 => k_is); (case k8 => ktr_room); (case k9 => exact BindsTo.of_eq rfl); (case c5 => decide); (case kB => exact locs rfl); (case c2 => exact rfl); (case c3 => exact rfl); (case c4 => exact rfl); k_whole; intro g' L' h' FG' F' N' B' X' T' K9; clear N; (try dsimp only); (try k_fold))
  (repeat' (first | (k_unfold; (try dsimp only)) | (k_end; wrow_close) | ((with_reducible show wpAny _ _ (call (Value.builtin "sorted") _) _ _ _); (k_here; (with_reducible show wpAny _ _ (call (Value.builtin _) [Value.ref _]) _ _ _); (with_unfolding_all refine' sorted3 ?k1 ?k2 ?k3 ?_; (case k1 => k_asm); (case k2 => k_asm); (case k3 => k_mem); k_whole); intro D' c' h' a' b' t1' t2' t3' F' N' l1; (try k_lt l1); (try k_sweep))) | walk1 | (dsimp only; walk1) | (leave1; walk_say "STEP leave1"; try dsimp only) | fail "no step"))
  all_goals (refine fin0 Nn hs K9 hret (by assumption) (by assumption) (by assumption) (by assumption) (by first | exact List.forall_mem_nil _ | kcj_all) ⟨⟨_, rfl⟩, rfl⟩)

def tw (x y : Nat) : Int := (if y < x then 1 else 0) - (if x < y then 1 else 0)
theorem tw_is (x y : Nat) : b2i (decide ([y] < [x])) - b2i (decide ([x] < [y])) = tw x y := by
  unfold tw
  by_cases h : y < x
  · simp [b2i, List.cons_lt_cons_iff, h]
  · by_cases h2 : x < y <;> simp [b2i, List.cons_lt_cons_iff, h, h2]
theorem tw_C (w : World) (x y : Nat) (tx ty : Tok) :
    Says 4 w 95 [.str (ch x) tx, .str (ch y) ty] []
      (fun r tl => (∃ t, r = .int (tw x y) t) ∧ tl = []) := by
  unfold Says
  k_fill
  intro mean mg mb dp un gd cn cs a ccd cl outer A₀ base h₀ L m news s Q E B F X Nn T hk hd hu hs hret
  have N := cb_drop Nn hs
  refine wpAny_call ?_
  k_dflt (refine' enterH ?k1 ?k2 ?k3 ?k4 ?k5 ?kA ?kF ?kK ?k6 ?k7 ?k8 ?k9 ?kB ?_ ?c2 ?c3 ?c4 ?c5; (case kA => exact rfl); (case kF => exact rfl); (case kK => assumption); (case k1 => k_asm); (case k2 => k_asm); (case k3 => k_asm); (case k4 => exact N); (case k5 => k_asm); (case k6 => k_is); (case k7 => k_is); (case k8 => ktr_room); (case k9 => exact BindsTo.of_eq rfl); (case c5 => decide); (case kB => exact locs rfl); (case c2 => exact rfl); (case c3 => exact rfl); (case c4 => exact rfl); k_whole; intro g' L' h' FG' F' N' B' X' T' K9; clear N; (try dsimp only); (try k_fold))
  (repeat' (first | (k_unfold; (try dsimp only)) | (k_end; wrow_close) | ((with_reducible show wpAny _ _ (call (Value.builtin "sorted") _) _ _ _); (k_here; (with_reducible show wpAny _ _ (call (Value.builtin _) [Value.ref _]) _ _ _); (with_unfolding_all refine' sorted3 ?k1 ?k2 ?k3 ?_; (case k1 => k_asm); (case k2 => k_asm); (case k3 => k_mem); k_whole); intro D' c' h' a' b' t1' t2' t3' F' N' l1; (try k_lt l1); (try k_sweep))) | walk1 | (dsimp only; walk1) | (leave1; walk_say "STEP leave1"; try dsimp only) | fail "no step"))
  all_goals (refine fin0 Nn hs K9 hret (by assumption) (by assumption) (by assumption) (by assumption) (by first | exact List.forall_mem_nil _ | kcj_all) ⟨⟨_, by rw [← tw_is]⟩, rfl⟩)
-- R1
section
variable {prog : Program} {w : World} {A : Around} {E : Value → Shared → Prop} {s : Shared} {Q : Value → Shared → Prop}
/-- one sign of a text at a place that is known to lie in it -/
theorem sitem {value slice : Expr} {x : Str} {t u : Tok} {k : Int} {c : Nat} (h0 : 0 ≤ k) (hz : x.cps.size ≤ 16777216) (hc : x.cps[k.toNat]? = some c)
    (h : ∀ t' tk', Q (.str (ch c) t') { s with toks := tk' })
    (hs : subscripted slice false (.str x t) (.int k u) = operate [.str x t, .int k u] (getItem (.str x t) (.int k u)) := by with_unfolding_all rfl) :
    wpAny (model prog w) A (subscriptTail value slice (.str x t) (.int k u)) Q E s := by
  have hlt : k.toNat < x.cps.size := by
    rcases Array.getElem?_eq_some_iff.mp hc with ⟨h1, _⟩
    exact h1
  have hl : x.length = x.cps.size := rfl
  refine kba_turn (value' := PySem.Expr.Name (PySem.Str.ofString "_") ⟨0, 0, 0, 0⟩) (fun _ => rfl) ?_
  refine item_str (fitsSsize_of (N := 9223372036854775808) (by omega) (by omega) (Int.le_refl _)) (by omega) (by omega) (fun _ => ?_) hs (fun _ => rfl)
  rw [item_meets h0 hc]
  exact h _ _
end
-- R2
section
variable {prog : Program} {w : World} {A : Around} {E : Value → Shared → Prop} {s : Shared} {env : Env} {h₀ : Heap} {body : List Stmt} {Q : Flow → Shared → Prop}
/-- a loop over a range by ones, whatever name it stores into, turn by turn -/
theorem iter_rangeTurns {x : Str} {px : Pos} {r : Addr} {a b : Int} {t u v : Tok} {n : Nat} {xs : List Itm} {m₀ : Str → Option Value} {news : List (Addr × Obj)}
    (hh : A.handled = none) (hr : IsRange s.heap r a b 1 t u v) (hsm : Builtin.Range.small a b 1 = true) (hn : Builtin.Range.rangeSize a b 1 = ((n : Nat) : Int)) (F : Fr h₀ env.locals s.heap m₀) (N : News h₀ env.locals s.heap news)
    (hx : ((List.range n).map fun (i : Nat) => Itm.tok fun t => Value.int (a + ((i : Nat) : Int)) t) = xs)
    (rest₀ : ∀ I : Addr, (∀ p ∈ news, p.1 < I) → ItemsRest prog w A E h₀ env (.Name x px) body Q s [(I, "range_iterator")] [] xs m₀ news) :
    wpAny (model prog w) A (pyIter (.ref r)) (fun it s₂ => TurnsAt prog w A h₀ env (.Name x px) body Q E it s₂) E s := by
  subst hx
  refine wpAny_pyIter_range hr hsm ?_
  refine ktu_core (tk0 := s.toks) (keep := []) (KTurns.ofWalks (LCg.range_walks (I := s.heap.objs.size) hh a n).bound fun i v s Q E st q => wpAny_pure q) (by simp) (fun i v h hp => ?_) (fun i h st => ?_) (fun b hb => ?_) (fun b hb => by simpa using hb) (fun b hb => ?_) ?_ (fun p hp hI => ?_) ?_ (F.push _) (fun p hp => ⟨Heap.get?_push_of_some _ (N p hp).1, (N p hp).2⟩) trivial (rest₀ _ fun p hp => Heap.lt_size (N p hp).1)
  · obtain ⟨hi, t', e⟩ := hp
    refine ⟨Itm.tok fun t => Value.int (a + ((i : Nat) : Int)) t, by rw [List.getElem?_map, List.getElem?_range hi]; rfl, ?_⟩
    exact ⟨t', e⟩
  · exact ⟨[(s.heap.objs.size, _)], ⟨⟨rfl, rfl⟩, trivial⟩, fun p hp => by rw [List.mem_singleton.mp hp]; exact st⟩
  · have hb' : b = s.heap.objs.size := by simpa using hb
    rw [hb']
    exact ⟨List.mem_cons_self .., next_is_new F⟩
  · exact .inl (by simpa using hb)
  · intro hI
    exact absurd F.ns.lt ((List.mem_singleton.mp hI) ▸ Nat.lt_irrefl _)
  · exact absurd (Heap.lt_size (N p hp).1) ((List.mem_singleton.mp hI) ▸ Nat.lt_irrefl _)
  · show IsRangeIter _ _ _ _ _
    rw [hn]
    simpa using Heap.get?_push_size _ rfl
end
-- R3
/-- a row of four signs -/
def rowF (f : Nat → Nat) : Str := ⟨#[f 0, f 1, f 2, f 3]⟩
theorem rowF_get (f : Nat → Nat) {i : Nat} (h : i < 4) : (rowF f).cps[((i : Nat) : Int).toNat]? = some (f i) := by
  rcases i with _ | _ | _ | _ | i
  · rfl
  · rfl
  · rfl
  · rfl
  · omega

inductive YsAre (P : Nat → Value → Prop) : Nat → List Value → Prop
  | nil : YsAre P 0 []
  | snoc {i : Nat} {ys : List Value} {y : Value} : YsAre P i ys → P i y → YsAre P (i + 1) (ys ++ [y])
theorem YsAre.length {P : Nat → Value → Prop} {i : Nat} {ys : List Value} (h : YsAre P i ys) : ys.length = i := by
  induction h with
  | nil => rfl
  | snoc _ _ ih => rw [List.length_append, ih]; rfl
theorem YsAre.four {P : Nat → Value → Prop} {ys : List Value} (h : YsAre P 4 ys) : ∃ a b c d, ys = [a, b, c, d] ∧ P 0 a ∧ P 1 b ∧ P 2 c ∧ P 3 d := by
  cases h with
  | snoc h d => cases h with
    | snoc h c => cases h with
      | snoc h b => cases h with
        | snoc h a => cases h with
          | nil => exact ⟨_, _, _, _, rfl, a, b, c, d⟩

def CellPost (h₀ : Heap) (L : Addr) (m : Str → Option Value) (s₁ : Shared) (all : List (Addr × Obj)) (P : Value → Prop) (y : Value) (s' : Shared) : Prop :=
  ∃ h' tk', s' = { s₁ with heap := h', toks := tk' } ∧ Fr h₀ L h' m ∧ News h₀ L h' all ∧ P y
theorem CellPost.intro {h₀ : Heap} {L : Addr} {m : Str → Option Value} {s₁ : Shared} {all big : List (Addr × Obj)} {P : Value → Prop} {y : Value} {h' : Heap} {tk' : Nat} (F : Fr h₀ L h' m) (N : News h₀ L h' big) (hs : ∀ p ∈ all, p ∈ big) (p : P y) :
    CellPost h₀ L m s₁ all P y { s₁ with heap := h', toks := tk' } := ⟨h', tk', rfl, F, cb_drop N hs, p⟩

section
variable {prog : Program} {w : World} {A : Around} {E : Value → Shared → Prop} {s : Shared} {h₀ : Heap} {L : Addr} {m : Str → Option Value} {env : Env}
/-- the turns of a comprehension over a range whose own name is a cell -/
def CellTurns (prog : Program) (w : World) (A : Around) (h₀ : Heap) (L : Addr) (m : Str → Option Value) (env : Env) (elt : Expr) (x : Str) (scope : Scope) (cl : List (Str × Addr)) (n : Nat) (P : Nat → Value → Prop) (Q : Value → Shared → Prop) (xv : Value) (s₁ : Shared) : Prop :=
  ∃ r t u v news, xv = .ref r ∧ A.handled = none ∧ Fr h₀ L s₁.heap m ∧ News h₀ L s₁.heap news ∧ IsRange s₁.heap r 0 (n : Int) 1 t u v ∧ Builtin.Range.small 0 (n : Int) 1 = true ∧ Builtin.Range.rangeSize 0 (n : Int) 1 = (n : Int) ∧ n ≤ sizeLine ∧
    (∀ I D C c, (∀ p ∈ news, p.1 < I) → I < D → D < C → C < c → ∀ i t oI oC oc ys h tk (E' : Value → Shared → Prop), i < n → oc.data = .cell (some (.int ((i : Nat) : Int) t)) → Fr h₀ L h m → News h₀ L h ((I, oI) :: (C, oC) :: (D, LCg.lst ys) :: (c, oc) :: news) →
      wpAny (model prog w) A (eval elt (compEnvC scope ((x, c) :: cl) C env)) (CellPost h₀ L m { s₁ with heap := h, toks := tk } ((I, oI) :: (C, oC) :: (D, LCg.lst ys) :: (c, oc) :: news) (P i)) E' { s₁ with heap := h, toks := tk }) ∧
    (∀ D h tk ys, YsAre P n ys → Fr h₀ L h m → News h₀ L h ((D, LCg.lst ys) :: news) → (∀ p ∈ news, p.1 < D) → Q (.ref D) { s₁ with heap := h, toks := tk })

theorem ListComp_cell {elt iter : Expr} {x : Str} {px : Pos} {scope : Scope} {cl : List (Str × Addr)} {pos : Pos} {n : Nat} {P : Nat → Value → Prop} {Q : Value → Shared → Prop} (hclos : closureFor scope env = pure cl)
    (hcf : ∀ k, cellsFrom k scope.names cl = (x, k) :: cl) (hpc : ∀ h, pushCells h scope.names = h.push { cls := .type "cell", data := .cell none }) (hkind : scope.kind = .function)
    (hnames : ∀ y ∈ scope.names, y.2 = .local → scope.names.lookup y.1 = some .local) (hx : ∀ c C, (compEnvC scope ((x, c) :: cl) C env).kindOf x = some .cell)
    (h : wpAny (model prog w) A (eval iter env) (CellTurns prog w A h₀ L m env elt x scope cl n P Q) E s)
    (hs : ∀ x, foldedSetIterable iter env x = pure x := by intro _; rfl) :
    wpAny (model prog w) A (eval (.ListComp elt [⟨.Name x px, iter, [], 0⟩] scope pos) env) Q E s := by
  rw [eval_ListComp]
  refine wpAny_comprehension_free (use := none) rfl hs hclos hkind hnames (wpAny_mono h (fun xv s₁ h₁ => ?_) fun _ _ e => e)
  obtain ⟨r, t, u, v, news, rfl, hh, F, N, hr, hsm, hn, hsz, turn, fin⟩ := h₁
  refine wpAny_pyIter_range hr hsm ?_
  refine wpAny_newObj_type ?_
  simp only [newFunctionEnv, Option.isSome_some, if_true]
  refine wpAny_bind (wpAny_alloc ?_)
  refine wpAny_bind (wpAny_layCells _ (fun name kind cells => by cases hkc : kind == NameKind.cell <;> simp [hkc]) _ _ _ _ ?_)
  simp only [List.forIn_nil]
  refine wpAny_bind (wpAny_pure (wpAny_pure ?_))
  dsimp only
  rw [hcf, hpc]
  generalize e1 : s₁.heap.push { cls := Value.type "range_iterator", data := Data.fields #[rawInt 0, rawInt (Builtin.Range.rangeSize 0 (↑n) 1), rawInt 1] } = H1
  generalize e2 : H1.push { cls := Value.type "list", data := Data.seq ([] : List Value).toArray } = H2
  generalize e3 : H2.push { cls := Value.type "dict", data := Data.dict #[] } = H3
  generalize e4 : H3.push { cls := Value.type "cell", data := Data.cell none } = H4
  have z1 : H1.objs.size = s₁.heap.objs.size + 1 := by rw [← e1, Heap.size_push]
  have z2 : H2.objs.size = s₁.heap.objs.size + 2 := by rw [← e2, Heap.size_push, z1]
  have z3 : H3.objs.size = s₁.heap.objs.size + 3 := by rw [← e3, Heap.size_push, z2]
  have up1 : ∀ b o, s₁.heap.get? b = some o → H1.get? b = some o := fun b o e => e1 ▸ Heap.get?_push_of_some _ e
  have up2 : ∀ b o, H1.get? b = some o → H2.get? b = some o := fun b o e => e2 ▸ Heap.get?_push_of_some _ e
  have up3 : ∀ b o, H2.get? b = some o → H3.get? b = some o := fun b o e => e3 ▸ Heap.get?_push_of_some _ e
  have up4 : ∀ b o, H3.get? b = some o → H4.get? b = some o := fun b o e => e4 ▸ Heap.get?_push_of_some _ e
  have old : ∀ b o, s₁.heap.get? b = some o → H4.get? b = some o := fun b o e => up4 _ _ (up3 _ _ (up2 _ _ (up1 _ _ e)))
  have gI : H4.get? s₁.heap.objs.size = some { cls := Value.type "range_iterator", data := Data.fields #[rawInt 0, rawInt (Builtin.Range.rangeSize 0 (↑n) 1), rawInt 1] } := up4 _ _ (up3 _ _ (up2 _ _ (e1 ▸ Heap.get?_push_size _ rfl)))
  have gD : H4.get? H1.objs.size = some (LCg.lst []) := up4 _ _ (up3 _ _ (e2 ▸ Heap.get?_push_size _ rfl))
  have gC : H4.Ns H2.objs.size (fun _ => none) := (e3 ▸ Heap.Ns.new H2 (.type "dict") : H3.Ns H2.objs.size (fun _ => none)).keeps up4
  have gc : H4.IsCell H3.objs.size none := ⟨_, e4 ▸ Heap.get?_push_size _ rfl, rfl⟩
  have fresh₀ : ∀ a, s₁.heap.objs.size ≤ a → h₀.get? a = none := fun a ha => ktu_new F ha
  have hLlt : L < s₁.heap.objs.size := F.ns.lt
  have hlt : ∀ p ∈ news, p.1 < s₁.heap.objs.size := fun p hp => Heap.lt_size (N p hp).1
  have W := LCg.range_walks (prog := prog) (w := w) (I := s₁.heap.objs.size) hh 0 n
  have hst₀ : IsRangeIter H4 s₁.heap.objs.size (0 + (0 : Nat) * 1) ((n : Int) - (0 : Nat)) 1 := by
    show H4.get? _ = _
    rw [gI, hn]
    simp
  generalize hI : s₁.heap.objs.size = I at *
  generalize hD : H1.objs.size = D at *
  generalize hC : H2.objs.size = C at *
  generalize hc : H3.objs.size = c at *
  have nDI : (D : Nat) ≠ I := by omega
  have nCI : (C : Nat) ≠ I := by omega
  have ncI : (c : Nat) ≠ I := by omega
  have nCD : (C : Nat) ≠ D := by omega
  have ncD : (c : Nat) ≠ D := by omega
  have ncC : (c : Nat) ≠ C := by omega
  have nIL : (I : Nat) ≠ L := Ne.symm (Nat.ne_of_lt hLlt)
  have nDL : (D : Nat) ≠ L := Ne.symm (Nat.ne_of_lt (Nat.lt_of_lt_of_le hLlt (by omega)))
  have nCL : (C : Nat) ≠ L := Ne.symm (Nat.ne_of_lt (Nat.lt_of_lt_of_le hLlt (by omega)))
  have ncL : (c : Nat) ≠ L := Ne.symm (Nat.ne_of_lt (Nat.lt_of_lt_of_le hLlt (by omega)))
  have fI : h₀.get? I = none := fresh₀ I (Nat.le_refl _)
  have fD : h₀.get? D = none := fresh₀ D (show (I : Nat) ≤ D by omega)
  have fC : h₀.get? C = none := fresh₀ C (show (I : Nat) ≤ C by omega)
  have fc : h₀.get? c = none := fresh₀ c (show (I : Nat) ≤ c by omega)
  have pI : ∀ p ∈ news, p.1 ≠ I := fun p hp => Nat.ne_of_lt (hlt p hp)
  have pD : ∀ p ∈ news, p.1 ≠ D := fun p hp => Nat.ne_of_lt (Nat.lt_of_lt_of_le (hlt p hp) (by omega))
  have pC : ∀ p ∈ news, p.1 ≠ C := fun p hp => Nat.ne_of_lt (Nat.lt_of_lt_of_le (hlt p hp) (by omega))
  have pc : ∀ p ∈ news, p.1 ≠ c := fun p hp => Nat.ne_of_lt (Nat.lt_of_lt_of_le (hlt p hp) (by omega))
  have loop : ∀ s₃ : Shared, s₃ = { s₁ with heap := H4, toks := s₁.toks } →
      codeAny (model prog w) A (.compLoop (.ListComp elt [⟨.Name x px, iter, [], 0⟩] scope pos) 0 (.ref I) (.ref D) (compEnvC scope ((x, c) :: cl) C env)) (compPost (model prog w) A E none Q (.ref D) C) s₃ := by
    rintro s₃ rfl
    refine codeAny_compLoop_tests
      (fun k s' => ∃ h' tk i ys m', s' = { s₁ with heap := h', toks := tk } ∧ i ≤ n ∧ k = n + 1 - i ∧ YsAre P i ys ∧ IsRangeIter h' I (0 + (i : Nat) * 1) ((n : Int) - (i : Nat)) 1 ∧ Fr h₀ L h' m ∧ h'.Ns C m' ∧ (∃ v₀, h'.IsCell c v₀) ∧ News h₀ L h' ((D, LCg.lst ys) :: news)) ?_ (n + 1)
      ⟨H4, _, 0, [], _, rfl, Nat.zero_le _, rfl, .nil, hst₀, F.keeps old, gC, ⟨_, gc⟩, fun p hp => ?_⟩
    · rintro k s' ⟨h', tk, i, ys, m', rfl, hi, rfl, hys, hst', F', hn', ⟨v₀, hc'⟩, N'⟩
      by_cases hlt' : i < n
      · refine W.item i _ _ _ hlt' hst' fun v h₂ tk₂ hPv hst₂ hk₂ => ?_
        obtain ⟨t', rfl⟩ := hPv
        rw [Int.zero_add]
        have kI : ∀ b o, b ≠ I → h'.get? b = some o → h₂.get? b = some o := fun b o hb e => hk₂ b o (by simpa using hb) e
        have hc₂ : h₂.IsCell c v₀ := by
          obtain ⟨o, e, d⟩ := hc'
          exact ⟨o, kI c o ncI e, d⟩
        refine wpAny_assign_Name (wpAny_storeName_cell hkind (hx c C) (by show ((x, c) :: cl).lookup x = some c; simp) hc₂ fun h₃ hc₃ hs₃ => ?_)
        refine wpAny_tests_nil ?_
        simp only [if_true]
        have kc : ∀ b o, b ≠ c → h₂.get? b = some o → h₃.get? b = some o := fun b o hb e => hs₃.extBut b o hb e
        have gI₃ : h₃.get? I = some _ := kc I _ (Ne.symm ncI) hst₂
        obtain ⟨oC, heC, hoC⟩ := LCg.ns_obj hn'
        obtain ⟨oc, hec, hoc⟩ := hc₃
        have F₃ : Fr h₀ L h₃ m := (LCg.fr_but F' hk₂ (Ne.symm nIL) fI).change hs₃ ncL fc
        have N₃ : News h₀ L h₃ ((I, _) :: (C, oC) :: (D, LCg.lst ys) :: (c, oc) :: news) := fun p hp => by
          rcases List.mem_cons.mp hp with rfl | hp
          · exact ⟨gI₃, nIL, fI⟩
          rcases List.mem_cons.mp hp with rfl | hp
          · exact ⟨kc C oC (Ne.symm ncC) (kI C oC nCI heC), nCL, fC⟩
          rcases List.mem_cons.mp hp with rfl | hp
          · exact ⟨kc D _ (Ne.symm ncD) (kI D _ nDI (N' _ (.head _)).1), nDL, fD⟩
          rcases List.mem_cons.mp hp with rfl | hp
          · exact ⟨hec, ncL, fc⟩
          · exact ⟨kc _ _ (pc p hp) (kI _ _ (pI p hp) (N' p (.tail _ hp)).1), (N' p (.tail _ hp)).2⟩
        refine wpAny_mono (turn I D C c hlt (show (I : Nat) < D by omega) (show (D : Nat) < C by omega) (show (C : Nat) < c by omega) i t' _ oC oc ys h₃ tk₂ _ hlt' hoc F₃ N₃) (fun y s₄ h₄ => ?_) fun _ _ e => e
        obtain ⟨h₄, tk₄, rfl, F₄, N₄, hPy⟩ := h₄
        have zI := (N₄ _ (.head _)).1
        have zC := (N₄ _ (.tail _ (.head _))).1
        have zD := (N₄ _ (.tail _ (.tail _ (.head _)))).1
        have zc := (N₄ _ (.tail _ (.tail _ (.tail _ (.head _))))).1
        have Nn : News h₀ L h₄ news := fun p hp => N₄ p (.tail _ (.tail _ (.tail _ (.tail _ hp))))
        refine append_at (hsz := by show ys.toArray.size ≤ sizeLine; rw [List.size_toArray, hys.length]; exact Nat.le_trans hi hsz) zD fun h₅ hs₅ hD₅ => ?_
        have kD : ∀ b o, b ≠ D → h₄.get? b = some o → h₅.get? b = some o := fun b o hb e => hs₅.extBut b o hb e
        refine ⟨n + 1 - (i + 1), by omega, h₅, tk₄, i + 1, ys ++ [y], _, rfl, hlt', rfl, .snoc hys hPy, kD I _ (Ne.symm nDI) zI, F₄.change hs₅ nDL fD, (hoC.ns zC).sameBut hs₅ nCD, ⟨_, oc, kD c _ ncD zc, hoc⟩, fun p hp => ?_⟩
        rcases List.mem_cons.mp hp with rfl | hp
        · exact ⟨hD₅.trans (congrArg some (LCg.lst_snoc ys y)), nDL, fD⟩
        · exact ⟨kD _ _ (pD p hp) (Nn p hp).1, (Nn p hp).2⟩
      · obtain rfl : i = n := Nat.le_antisymm hi (Nat.not_lt.mp hlt')
        refine W.done _ _ _ hst' fun h₂ tk₂ hk₂ => ?_
        have kI : ∀ b o, b ≠ I → h'.get? b = some o → h₂.get? b = some o := fun b o hb e => hk₂ b o (by simpa using hb) e
        obtain ⟨oC, heC, hoC⟩ := LCg.ns_obj hn'
        refine ⟨m', hoC.ns (kI C oC nCI heC), fun h'' hs'' => fin D h'' tk₂ ys hys ((LCg.fr_but F' hk₂ (Ne.symm nIL) fI).change hs'' nCL fC) (fun p hp => ?_) fun p hp => ?_⟩
        · rcases List.mem_cons.mp hp with rfl | hp
          · exact ⟨hs''.extBut D _ (Ne.symm nCD) (kI D _ nDI (N' _ (.head _)).1), nDL, fD⟩
          · exact ⟨hs''.extBut _ _ (pC p hp) (kI _ _ (pI p hp) (N' p (.tail _ hp)).1), (N' p (.tail _ hp)).2⟩
        · exact Nat.lt_of_lt_of_le (hlt p hp) (by omega)
    · rcases List.mem_cons.mp hp with rfl | hp
      · exact ⟨gD, nDL, fD⟩
      · exact ⟨old _ _ (N p hp).1, (N p hp).2⟩
  exact codeAny_compStart_list (loop _ rfl) (W.self 0 _ _ _ hst₀ (loop _ rfl))
end
-- R5
theorem join_four (a b c d : Nat) : Txt.join (Str.ofString "") [ch a, ch b, ch c, ch d] = ⟨#[a, b, c, d]⟩ := rfl
section
variable {prog : Program} {w : World} {A : Around} {E : Value → Shared → Prop} {s : Shared} {h₀ : Heap} {L : Addr} {news : List (Addr × Obj)} {Q : Value → Shared → Prop}
theorem join4 {D : Addr} {k : Nat} {t u0 u1 u2 u3 : Tok} {a b c d : Nat} (N : News h₀ L s.heap news) (hm : (D, PySem.W.listOf #[.str (ch a) u0, .str (ch b) u1, .str (ch c) u2, .str (ch d) u3] k) ∈ news)
    (h : ∀ t' tk, Q (.str ⟨#[a, b, c, d]⟩ t') { s with toks := tk }) : wpAny (model prog w) A (call (.builtin "str.join") [.str (Str.ofString "") t, .ref D]) Q E s := by
  refine join_list (ys := [ch a, ch b, ch c, ch d]) (kso_isList N hm rfl) (.cons _ _ (.cons _ _ (.cons _ _ (.cons _ _ .nil)))) (Nat.le_of_ble_eq_true rfl) ?_
  intro t' k
  rw [join_four]
  exact h t' k
end
-- R6
section
variable {prog : Program} {w : World} {A : Around} {E : Value → Shared → Prop} {s : Shared} {h₀ : Heap} {L : Addr} {m : Str → Option Value} {news : List (Addr × Obj)} {Q : Value → Shared → Prop}
theorem cmp_gt {P : Nat → Value → Prop} (val : Nat → Nat) (hval : ∀ i v, P i v → ∃ t, v = .str (ch (val i)) t) : CmpOf prog w A .Gt P (fun i j => decide (((val i : Nat) : Int) > ((val j : Nat) : Int))) := fun i j vi vj s Q E hi hj h => by
  obtain ⟨t, rfl⟩ := hval i vi hi
  obtain ⟨u, rfl⟩ := hval j vj hj
  refine richCompare_gives (op := .Gt) (typeIs_str s _ t) (typeIs_str s _ u) F.slot_str_gt F.entry_str_gt (F.args_str_gt_2 _ _) (gives_str_gt _ _ t u) (fun x => nomatch x) ?_
  show Q (.bool (decide ((ch (val j)).cps.toList < (ch (val i)).cps.toList))) s
  rw [lt1]
  have e : decide (val j < val i) = decide (((val i : Nat) : Int) > ((val j : Nat) : Int)) := by
    apply decide_eq_decide.mpr; omega
  rw [e]; exact h
theorem cmp_lt {P : Nat → Value → Prop} (val : Nat → Nat) (hval : ∀ i v, P i v → ∃ t, v = .str (ch (val i)) t) : CmpOf prog w A .Lt P (fun i j => decide (((val i : Nat) : Int) < ((val j : Nat) : Int))) := fun i j vi vj s Q E hi hj h => by
  obtain ⟨t, rfl⟩ := hval i vi hi
  obtain ⟨u, rfl⟩ := hval j vj hj
  refine richCompare_gives (op := .Lt) (typeIs_str s _ t) (typeIs_str s _ u) F.slot_str_lt F.entry_str_lt (F.args_str_lt_2 _ _) (gives_str_lt _ _ t u) (fun x => nomatch x) ?_
  show Q (.bool (decide ((ch (val i)).cps.toList < (ch (val j)).cps.toList))) s
  rw [lt1]
  have e : decide (val i < val j) = decide (((val i : Nat) : Int) < ((val j : Nat) : Int)) := by
    apply decide_eq_decide.mpr; omega
  rw [e]; exact h
theorem iter_any {l : Addr} {its : Array Value} {Q : Value → Shared → Prop} (hl : s.heap.IsList l its)
    (h : ∀ s₂ : Shared, s₂ = { s with heap := s.heap.push { cls := .type "list_iterator", data := .fields #[.ref l, .int 0 0] } } →
      (s₂.heap.IsListIter s.heap.objs.size l 0 ∧ s₂.heap.IsList l its) → (∀ b ∈ [s.heap.objs.size, l], b < s₂.heap.objs.size) → l ≠ s.heap.objs.size → Q (.ref s.heap.objs.size) s₂) :
    wpAny (model prog w) A (pyIter (.ref l)) Q E s := by
  have hlt : l < s.heap.objs.size := by obtain ⟨_, e, _⟩ := hl; exact Heap.lt_size e
  refine wpAny_pyIter_list hl (h _ rfl ⟨⟨_, Heap.get?_push_size _ rfl, rfl, rfl⟩, hl.push _⟩ (fun b hb => ?_) (Nat.ne_of_lt hlt))
  show b < (s.heap.push _).objs.size
  rw [Heap.size_push]
  have hb' : b = s.heap.objs.size ∨ b = l := by simpa using hb
  rcases hb' with rfl | rfl
  · exact Nat.lt_succ_self _
  · exact Nat.lt_succ_of_lt hlt
theorem maxs {l : Addr} {its : Array Value} (hh : A.handled = none) (F : Fr h₀ L s.heap m) (N : News h₀ L s.heap news) (hl : s.heap.IsList l its) (hne : 0 < its.size) (val : Nat → Nat) (hval : ∀ (i : Nat) (v : Value), its[i]? = some v → ∃ t, v = .str (ch (val i)) t)
    (h : ∀ h' M (t : Tok) tk, Fr h₀ L h' m → News h₀ L h' news → (∃ i, i < its.size ∧ M = val i) → (∀ i, i < its.size → val i ≤ M) → Q (.str (ch M) t) { s with heap := h', toks := tk }) :
    wpAny (model prog w) A (call (.builtin "max") [.ref l]) Q E s := by
  refine call_max_walk (iter_any hl fun s₂ e st hfp hlI => ?_)
  subst e
  refine ⟨_, _, _, _, _, _, _, rfl, Walks.list (A := A.in1) hh _ l hlI its, st, hfp, hne, cmp_gt val hval, fun v h' tk hP hk => ?_⟩
  obtain ⟨t, rfl⟩ := hval _ _ hP
  obtain ⟨h1, h2⟩ := argBest_gt (fun i => ((val i : Nat) : Int)) (its.size - 1)
  refine h _ _ t tk (F.grownK (old_kept hk)) (N.grown (old_kept hk)) ⟨_, by omega, rfl⟩ fun i hi => ?_
  have := h2 i (by omega)
  omega
theorem mins {l : Addr} {its : Array Value} (hh : A.handled = none) (F : Fr h₀ L s.heap m) (N : News h₀ L s.heap news) (hl : s.heap.IsList l its) (hne : 0 < its.size) (val : Nat → Nat) (hval : ∀ (i : Nat) (v : Value), its[i]? = some v → ∃ t, v = .str (ch (val i)) t)
    (h : ∀ h' M (t : Tok) tk, Fr h₀ L h' m → News h₀ L h' news → (∃ i, i < its.size ∧ M = val i) → (∀ i, i < its.size → M ≤ val i) → Q (.str (ch M) t) { s with heap := h', toks := tk }) :
    wpAny (model prog w) A (call (.builtin "min") [.ref l]) Q E s := by
  refine call_min_walk (iter_any hl fun s₂ e st hfp hlI => ?_)
  subst e
  refine ⟨_, _, _, _, _, _, _, rfl, Walks.list (A := A.in1) hh _ l hlI its, st, hfp, hne, cmp_lt val hval, fun v h' tk hP hk => ?_⟩
  obtain ⟨t, rfl⟩ := hval _ _ hP
  obtain ⟨h1, h2⟩ := argBest_lt (fun i => ((val i : Nat) : Int)) (its.size - 1)
  refine h _ _ t tk (F.grownK (old_kept hk)) (N.grown (old_kept hk)) ⟨_, by omega, rfl⟩ fun i hi => ?_
  have := h2 i (by omega)
  omega

theorem val3 {a b c : Nat} {ta tb tc : Tok} : ∀ (i : Nat) (v : Value), (#[Value.str (ch a) ta, .str (ch b) tb, .str (ch c) tc] : Array Value)[i]? = some v → ∃ t, v = .str (ch (match i with | 0 => a | 1 => b | _ => c)) t := by
  intro i v h
  rcases i with _ | _ | _ | i
  · exact ⟨ta, (Option.some.inj h).symm⟩
  · exact ⟨tb, (Option.some.inj h).symm⟩
  · exact ⟨tc, (Option.some.inj h).symm⟩
  · simp at h
theorem val4 {a b c d : Nat} {ta tb tc td : Tok} : ∀ (i : Nat) (v : Value), (#[Value.str (ch a) ta, .str (ch b) tb, .str (ch c) tc, .str (ch d) td] : Array Value)[i]? = some v → ∃ t, v = .str (ch (match i with | 0 => a | 1 => b | 2 => c | _ => d)) t := by
  intro i v h
  rcases i with _ | _ | _ | _ | i
  · exact ⟨ta, (Option.some.inj h).symm⟩
  · exact ⟨tb, (Option.some.inj h).symm⟩
  · exact ⟨tc, (Option.some.inj h).symm⟩
  · exact ⟨td, (Option.some.inj h).symm⟩
  · simp at h
def mx3 (a b c : Nat) : Nat := max (max a b) c
def mn3 (a b c : Nat) : Nat := min (min a b) c
def mx4 (a b c d : Nat) : Nat := max (max a b) (max c d)
def mn4 (a b c d : Nat) : Nat := min (min a b) (min c d)
theorem max3 {l : Addr} {k a b c : Nat} {ta tb tc : Tok} (hh : A.handled = none) (F : Fr h₀ L s.heap m) (N : News h₀ L s.heap news) (hm : (l, PySem.W.listOf #[.str (ch a) ta, .str (ch b) tb, .str (ch c) tc] k) ∈ news)
    (h : ∀ h' (t : Tok) tk, Fr h₀ L h' m → News h₀ L h' news → Q (.str (ch (mx3 a b c)) t) { s with heap := h', toks := tk }) : wpAny (model prog w) A (call (.builtin "max") [.ref l]) Q E s := by
  refine maxs hh F N (kso_isList N hm rfl) (Nat.le_of_ble_eq_true rfl) _ val3 fun h' M t tk F' N' hM hle => ?_
  have e : M = mx3 a b c := by
    have h0 : a ≤ M := hle 0 (Nat.le_of_ble_eq_true rfl)
    have h1 : b ≤ M := hle 1 (Nat.le_of_ble_eq_true rfl)
    have h2 : c ≤ M := hle 2 (Nat.le_of_ble_eq_true rfl)
    obtain ⟨i, hi, hM⟩ := hM
    have hi' : i < 3 := hi
    unfold mx3
    rcases i with _ | _ | _ | i
    · have hM' : M = a := hM
      omega
    · have hM' : M = b := hM
      omega
    · have hM' : M = c := hM
      omega
    · omega
  subst e
  exact h h' t tk F' N'
theorem min3 {l : Addr} {k a b c : Nat} {ta tb tc : Tok} (hh : A.handled = none) (F : Fr h₀ L s.heap m) (N : News h₀ L s.heap news) (hm : (l, PySem.W.listOf #[.str (ch a) ta, .str (ch b) tb, .str (ch c) tc] k) ∈ news)
    (h : ∀ h' (t : Tok) tk, Fr h₀ L h' m → News h₀ L h' news → Q (.str (ch (mn3 a b c)) t) { s with heap := h', toks := tk }) : wpAny (model prog w) A (call (.builtin "min") [.ref l]) Q E s := by
  refine mins hh F N (kso_isList N hm rfl) (Nat.le_of_ble_eq_true rfl) _ val3 fun h' M t tk F' N' hM hle => ?_
  have e : M = mn3 a b c := by
    have h0 : M ≤ a := hle 0 (Nat.le_of_ble_eq_true rfl)
    have h1 : M ≤ b := hle 1 (Nat.le_of_ble_eq_true rfl)
    have h2 : M ≤ c := hle 2 (Nat.le_of_ble_eq_true rfl)
    obtain ⟨i, hi, hM⟩ := hM
    have hi' : i < 3 := hi
    unfold mn3
    rcases i with _ | _ | _ | i
    · have hM' : M = a := hM
      omega
    · have hM' : M = b := hM
      omega
    · have hM' : M = c := hM
      omega
    · omega
  subst e
  exact h h' t tk F' N'
theorem max4 {l : Addr} {k a b c d : Nat} {ta tb tc td : Tok} (hh : A.handled = none) (F : Fr h₀ L s.heap m) (N : News h₀ L s.heap news) (hm : (l, PySem.W.listOf #[.str (ch a) ta, .str (ch b) tb, .str (ch c) tc, .str (ch d) td] k) ∈ news)
    (h : ∀ h' (t : Tok) tk, Fr h₀ L h' m → News h₀ L h' news → Q (.str (ch (mx4 a b c d)) t) { s with heap := h', toks := tk }) : wpAny (model prog w) A (call (.builtin "max") [.ref l]) Q E s := by
  refine maxs hh F N (kso_isList N hm rfl) (Nat.le_of_ble_eq_true rfl) _ val4 fun h' M t tk F' N' hM hle => ?_
  have e : M = mx4 a b c d := by
    have h0 : a ≤ M := hle 0 (Nat.le_of_ble_eq_true rfl)
    have h1 : b ≤ M := hle 1 (Nat.le_of_ble_eq_true rfl)
    have h2 : c ≤ M := hle 2 (Nat.le_of_ble_eq_true rfl)
    have h3 : d ≤ M := hle 3 (Nat.le_of_ble_eq_true rfl)
    obtain ⟨i, hi, hM⟩ := hM
    have hi' : i < 4 := hi
    unfold mx4
    rcases i with _ | _ | _ | _ | i
    · have hM' : M = a := hM
      omega
    · have hM' : M = b := hM
      omega
    · have hM' : M = c := hM
      omega
    · have hM' : M = d := hM
      omega
    · omega
  subst e
  exact h h' t tk F' N'
theorem min4 {l : Addr} {k a b c d : Nat} {ta tb tc td : Tok} (hh : A.handled = none) (F : Fr h₀ L s.heap m) (N : News h₀ L s.heap news) (hm : (l, PySem.W.listOf #[.str (ch a) ta, .str (ch b) tb, .str (ch c) tc, .str (ch d) td] k) ∈ news)
    (h : ∀ h' (t : Tok) tk, Fr h₀ L h' m → News h₀ L h' news → Q (.str (ch (mn4 a b c d)) t) { s with heap := h', toks := tk }) : wpAny (model prog w) A (call (.builtin "min") [.ref l]) Q E s := by
  refine mins hh F N (kso_isList N hm rfl) (Nat.le_of_ble_eq_true rfl) _ val4 fun h' M t tk F' N' hM hle => ?_
  have e : M = mn4 a b c d := by
    have h0 : M ≤ a := hle 0 (Nat.le_of_ble_eq_true rfl)
    have h1 : M ≤ b := hle 1 (Nat.le_of_ble_eq_true rfl)
    have h2 : M ≤ c := hle 2 (Nat.le_of_ble_eq_true rfl)
    have h3 : M ≤ d := hle 3 (Nat.le_of_ble_eq_true rfl)
    obtain ⟨i, hi, hM⟩ := hM
    have hi' : i < 4 := hi
    unfold mn4
    rcases i with _ | _ | _ | _ | i
    · have hM' : M = a := hM
      omega
    · have hM' : M = b := hM
      omega
    · have hM' : M = c := hM
      omega
    · have hM' : M = d := hM
      omega
    · omega
  subst e
  exact h h' t tk F' N'
end
-- R7k
def Kp3 (l : Addr) (k : Int) (t : Tok) (S : Addr) (m : Str → Option Value) : Prop := m (Str.ofString "rows") = some (.ref l) ∧ m (Str.ofString "k") = some (.int k t) ∧ m (Str.ofString "signs") = some (.ref S)

section
variable {prog : Program} {w : World} {A : Around} {E : Value → Shared → Prop} {s : Shared} {env : Env} {h₀ : Heap} {body : List Stmt} {Q : Flow → Shared → Prop}
end

section
variable {prog : Program} {w : World} {A : Around} {E : Value → Shared → Prop} {s : Shared} {env : Env} {h₀ : Heap} {body : List Stmt} {Q : Flow → Shared → Prop}
end
-- R8k
def cm (x a b c : Nat) : Nat := if tw x a + tw x b + tw x c = 3 then mx3 a b c else if tw x a + tw x b + tw x c = -3 then mn3 a b c else x
def cmF (x a b c : Nat → Nat) : Nat → Nat := fun j => cm (x j) (a j) (b j) (c j)
def ov (x a b c d : Nat) : Nat := if x = mn4 a b c d then mx4 a b c d else mn4 a b c d
def ovF (x a b c d : Nat → Nat) : Nat → Nat := fun j => ov (x j) (a j) (b j) (c j) (d j)
theorem ch_inj {a b : Nat} : ch a = ch b ↔ a = b := by
  constructor
  · intro h
    have := congrArg (fun s : Str => s.cps.toList) h
    simpa using this
  · intro h; rw [h]
theorem ov_t {x a b c d : Nat} (h : (ch x == ch (mn4 a b c d)) = true) : mx4 a b c d = ov x a b c d := by
  unfold ov
  rw [if_pos (ch_inj.mp (eq_of_beq h))]
theorem ov_f {x a b c d : Nat} (h : (ch x == ch (mn4 a b c d)) = false) : mn4 a b c d = ov x a b c d := by
  unfold ov
  rw [if_neg]
  intro e
  rw [e, beq_self_eq_true] at h
  cases h
theorem tw_bd (x y : Nat) : -1 ≤ tw x y ∧ tw x y ≤ 1 := by
  unfold tw; split <;> split <;> omega
section
variable {prog : Program} {w : World} {A : Around} {E : Value → Shared → Prop} {s : Shared} {h₀ : Heap} {L : Addr} {m : Str → Option Value} {news : List (Addr × Obj)} {Q : Value → Shared → Prop}
theorem vali3 {a b c : Int} {ta tb tc : Tok} : ∀ (i : Nat) (v : Value), (#[Value.int a ta, .int b tb, .int c tc] : Array Value)[i]? = some v → ∃ t, v = .int (match i with | 0 => a | 1 => b | _ => c) t := by
  intro i v h
  rcases i with _ | _ | _ | i
  · exact ⟨ta, (Option.some.inj h).symm⟩
  · exact ⟨tb, (Option.some.inj h).symm⟩
  · exact ⟨tc, (Option.some.inj h).symm⟩
  · simp at h
theorem sum3 {l : Addr} {k : Nat} {x a b c : Nat} {ta tb tc : Tok} (hh : A.handled = none) (F : Fr h₀ L s.heap m) (N : News h₀ L s.heap news) (hm : (l, PySem.W.listOf #[.int (tw x a) ta, .int (tw x b) tb, .int (tw x c) tc] k) ∈ news)
    (h : ∀ h' (t : Tok) tk, Fr h₀ L h' m → News h₀ L h' news → Q (.int (tw x a + tw x b + tw x c) t) { s with heap := h', toks := tk }) : wpAny (model prog w) A (call (.builtin "sum") [.ref l]) Q E s := by
  have ha := tw_bd x a
  have hb := tw_bd x b
  have hc := tw_bd x c
  refine call_sum_walk (iter_any (kso_isList N hm rfl) fun s₂ e st hfp hlI => ?_)
  subst e
  refine ⟨_, _, _, _, _, _, fun i => match i with | 0 => tw x a | 1 => tw x b | _ => tw x c, rfl, Walks.list (A := A.in1) hh _ l hlI _, st, hfp, vali3, (fun j hj => ?_), fun h' tk t' hk => ?_⟩
  · have hj' : j < 3 := hj
    have p63 : (2 : Int) ^ 63 = 9223372036854775808 := by decide
    unfold InLong
    rw [p63]
    rcases j with _ | _ | _ | j
    · simp only [preSum]; omega
    · simp only [preSum]; omega
    · simp only [preSum]; omega
    · omega
  · have hq := h h' t' tk (F.grownK (old_kept hk)) (N.grown (old_kept hk))
    have e : preSum (fun i => match i with | 0 => tw x a | 1 => tw x b | _ => tw x c) 3 = tw x a + tw x b + tw x c := by
      simp only [preSum]; omega
    rw [← e] at hq
    exact hq
end
/-- what a statement leaves whose ways all append one sign to a list -/
def JPost (h₀ : Heap) (L : Addr) (m : Str → Option Value) (s : Shared) (g : Obj → List (Addr × Obj)) (its : Array Value) (n : Nat) (v : Nat) (f : Flow) (s' : Shared) : Prop :=
  f = .next ∧ ∃ t h' tk', s' = { s with heap := h', toks := tk' } ∧ Fr h₀ L h' m ∧ News h₀ L h' (g (PySem.W.listOf (its.push (.str (ch v) t)) (n + 1)))
theorem JPost.intro {h₀ : Heap} {L : Addr} {m : Str → Option Value} {s : Shared} {g : Obj → List (Addr × Obj)} {its : Array Value} {n v v' : Nat} {h' : Heap} {tk' : Nat} {t : Tok} (F : Fr h₀ L h' m) (N : News h₀ L h' (g (PySem.W.listOf (its.push (.str (ch v') t)) (n + 1)))) (e : v' = v) :
    JPost h₀ L m s g its n v .next { s with heap := h', toks := tk' } := by
  subst e
  exact ⟨rfl, t, h', tk', rfl, F, N⟩
theorem kp_open {l S : Addr} {k : Int} {t : Tok} {m : Str → Option Value} (h : Kp3 l k t S m) : m = fun y => if y = Str.ofString "rows" then some (.ref l) else if y = Str.ofString "k" then some (.int k t) else if y = Str.ofString "signs" then some (.ref S) else m y := by
  obtain ⟨h1, h2, h3⟩ := h
  funext y
  by_cases e1 : y = Str.ofString "rows"
  · rw [if_pos e1, e1, h1]
  · rw [if_neg e1]
    by_cases e2 : y = Str.ofString "k"
    · rw [if_pos e2, e2, h2]
    · rw [if_neg e2]
      by_cases e3 : y = Str.ofString "signs"
      · rw [if_pos e3, e3, h3]
      · rw [if_neg e3]
section
variable {prog : Program} {w : World} {A : Around} {E : Value → Shared → Prop} {s : Shared} {h₀ : Heap} {L : Addr} {m : Str → Option Value} {news : List (Addr × Obj)}
end
-- R9
section
variable {prog : Program} {w : World} {A : Around} {E : Value → Shared → Prop} {s : Shared} {Q : Value → Shared → Prop}
/-- one sign of a text at a place that is not written but lies in it -/
theorem sitemS {value slice : Expr} {x : Str} {t u : Tok} {k : Int} {N : Nat} (hb : 0 ≤ k ∧ k < ((N : Nat) : Int)) (hN : x.cps.size = N) (hz : N ≤ 16777216)
    (h : ∀ t' tk', Q (.str (ch (x.cps.getD k.toNat 0)) t') { s with toks := tk' })
    (hs : subscripted slice false (.str x t) (.int k u) = operate [.str x t, .int k u] (getItem (.str x t) (.int k u)) := by with_unfolding_all rfl) :
    wpAny (model prog w) A (subscriptTail value slice (.str x t) (.int k u)) Q E s := by
  subst hN
  have hlt : k.toNat < x.cps.size := by omega
  refine sitem hb.1 hz (c := x.cps.getD k.toNat 0) ?_ h hs
  rw [Array.getD_eq_getD_getElem?, Array.getElem?_eq_getElem hlt]
  rfl
end
theorem and1 (x : Int) : 0 ≤ Builtin.bitAnd x 1 ∧ Builtin.bitAnd x 1 < ((2 : Nat) : Int) := by
  rw [bitAnd_m1]; omega
theorem and1b (x y : Int) : 0 ≤ Builtin.bitAnd x 1 + 2 * Builtin.bitAnd y 1 ∧ Builtin.bitAnd x 1 + 2 * Builtin.bitAnd y 1 < ((4 : Nat) : Int) := by
  rw [bitAnd_m1, bitAnd_m1]; omega
theorem shr12 {n : Int} (h0 : 0 ≤ n) (h1 : n < 65536) : 0 ≤ n.fdiv (2 ^ Int.toNat 12) ∧ n.fdiv (2 ^ Int.toNat 12) < ((16 : Nat) : Int) := by
  have e : (2 : Int) ^ Int.toNat 12 = 4096 := by decide
  rw [e, Int.fdiv_eq_ediv_of_nonneg _ (by decide)]
  omega
-- R10
section
variable {prog : Program} {w : World} {A : Around} {E : Value → Shared → Prop} {s : Shared}
theorem nextOf_tuple_item {it t : Addr} {i : Nat} {items : Array Value} {x : Value} {Q : Value → Shared → Prop} (hit : s.heap.IsTupleIter it t i) (ht : s.heap.IsTuple t items) (hx : items[i]? = some x)
    (hQ : ∀ h', h'.IsTupleIter it t (i + 1) → Heap.SameBut it s.heap h' → Q x { s with heap := h' }) :
    wpAny (model prog w) A (Builtin.SmallTypes.nextOf (.ref it)) Q E s := by
  obtain ⟨o, ho, hc, hd⟩ := id hit
  obtain ⟨ol, hol, _, nl, hdl⟩ := ht
  unfold Builtin.SmallTypes.nextOf
  refine wpAny_bind (wpAny_callSpecial?_slot (name := Str.ofString "__next__") hit.typeIs F.slot_tuple_iterator_next
    (wpAny_call_entry F.slot_tuple_iterator_next hit.typeIs F.entry_tuple_iterator_next ?_ (F.args_tuple_iterator_next_1 _)))
  show wpAny _ _ (field (.ref it) 0 >>= _) _ _ s
  refine wpAny_bind (wpAny_field ho hd (x := .ref t) rfl ?_)
  show wpAny _ _ (if (Value.ref t == Value.none) = true then _ else _) _ _ s
  rw [if_neg (show ¬ ((Value.ref t == Value.none) = true) from Bool.false_ne_true)]
  show wpAny _ _ (field (.ref it) 1 >>= _) _ _ s
  refine wpAny_bind (wpAny_field ho hd (x := .int i 0) rfl ?_)
  show wpAny _ _ (seqItems? (.ref t) >>= _) _ _ s
  refine wpAny_bind (wpAny_seqItems hol hdl ?_)
  simp only [Int.toNat_natCast, hx]
  refine wpAny_bind (wpAny_setField ho hd (by simp) (wpAny_pure ⟨x, rfl, wpAny_pure (hQ _ ?_ (Heap.SameBut.update ..))⟩))
  exact ⟨_, Heap.get?_update_self _ ho (Obj.isFreed_of_fields (Obj.data_mapFields hd _)), (Obj.cls_mapFields ..).trans hc, by
    rw [Obj.data_mapFields hd]; simp [rawInt]⟩
theorem nextOf_tuple_end {it t : Addr} {i : Nat} {items : Array Value} {Q : Value → Shared → Prop} (hh : A.handled = none) (hit : s.heap.IsTupleIter it t i) (ht : s.heap.IsTuple t items) (hx : items[i]? = none)
    (hE : ∀ h' e, Heap.ExtBut it s.heap h' → (∃ o, h'.get? e = some o ∧ o.cls = .type "StopIteration") → E (.ref e) { s with heap := h' }) :
    wpAny (model prog w) A (Builtin.SmallTypes.nextOf (.ref it)) Q E s := by
  obtain ⟨o, ho, hc, hd⟩ := id hit
  obtain ⟨ol, hol, _, nl, hdl⟩ := ht
  unfold Builtin.SmallTypes.nextOf
  refine wpAny_bind (wpAny_callSpecial?_slot (name := Str.ofString "__next__") hit.typeIs F.slot_tuple_iterator_next
    (wpAny_call_entry F.slot_tuple_iterator_next hit.typeIs F.entry_tuple_iterator_next ?_ (F.args_tuple_iterator_next_1 _)))
  show wpAny _ _ (field (.ref it) 0 >>= _) _ _ s
  refine wpAny_bind (wpAny_field ho hd (x := .ref t) rfl ?_)
  show wpAny _ _ (if (Value.ref t == Value.none) = true then _ else _) _ _ s
  rw [if_neg (show ¬ ((Value.ref t == Value.none) = true) from Bool.false_ne_true)]
  show wpAny _ _ (field (.ref it) 1 >>= _) _ _ s
  refine wpAny_bind (wpAny_field ho hd (x := .int i 0) rfl ?_)
  show wpAny _ _ (seqItems? (.ref t) >>= _) _ _ s
  refine wpAny_bind (wpAny_seqItems hol hdl ?_)
  simp only [Int.toNat_natCast, hx]
  refine wpAny_bind (wpAny_rule (wpAny_bind (wpAny_setField ho hd (by simp) ?_)))
  show wpAny _ _ (newExc (.type "StopIteration") [] >>= _) _ _ _
  refine wpAny_bind ?_
  simp only [newExc, newTuple]
  refine wpAny_bind (wpAny_newObj_type ?_ (by size_fits))
  refine wpAny_bind (m := firstArgMember _ _) (wpAny_of_eq (a := Value.none) (by first | rfl | (simp only [firstArgMember]; rfl)) ?_)
  refine wpAny_newObj_type ?_ (by size_fits)
  simp only [raiseNew]
  refine wpAny_bind (wpAny_handled ?_)
  first | rw [show A.in1.handled = none from hh] | rw [hh]
  refine wpAny_bind (wpAny_pure (wpAny_throw ?_))
  exact hE _ _ (((Heap.SameBut.update ..).extBut.push _).push _) ⟨_, Heap.get?_push_size _ rfl, rfl⟩
end
theorem draws_tuple {prog : Program} {w : World} {A : Around} (hh : A.handled = none) (it l : Addr) (hne : l ≠ it) (items : Array Value) :
    Draws prog w A it [it, l] items.size (fun i v => items[i]? = some v) (fun i h => h.IsTupleIter it l i ∧ h.IsTuple l items) where
  live := fun _ _ st => let ⟨o, ho, _⟩ := st.1; ⟨o, ho⟩
  frame := fun _ _ _ st hk => ⟨let ⟨o, ho, r⟩ := st.1; ⟨o, hk it (by simp) o ho, r⟩, let ⟨o, ho, r⟩ := st.2; ⟨o, hk l (by simp) o ho, r⟩⟩
  item := fun i s Q E hi st hQ => by
    refine nextOf_tuple_item st.1 st.2 (x := items[i]) (by simp [hi]) fun h' hit' hs' => ?_
    exact hQ _ h' s.toks (by simp [hi]) ⟨hit', st.2.extBut hs'.extBut hne⟩ hs'
  done := fun s Q E st hE => nextOf_tuple_end hh st.1 st.2 (by simp) hE
end Mine
-- R11
open AutoSeq1 (wpAny_loadPart')
namespace Mine
theorem meets_enumT (l : Addr) (items : Array Value) (n : Nat) (dct : Option Addr) (sl : Array (Option Value)) :
    Meets (Builtin.«enumerate.__new__» ⟨[.type "enumerate", .ref l], []⟩) (fun _ R s => s.heap.get? l = some { cls := .type "tuple", dict := dct, data := .seq items n, slots := sl } ∧
      R (.ok (.ret (.ref (s.heap.push { cls := .type "tuple_iterator", data := .fields #[.ref l, .int 0 0] }).objs.size)))
        { s with heap := (s.heap.push { cls := .type "tuple_iterator", data := .fields #[.ref l, .int 0 0] }).push { cls := .type "enumerate", data := .fields #[.none, .bool false, .ref s.heap.objs.size, rawInt 0, .none, .none] } }) :=
  .of_wp fun prog w A R s h => by
    obtain ⟨hp, g, d, tk, os⟩ := s; obtain ⟨hl, h⟩ := h
    have hsub := sub_enumerate
    have hL : Heap.IsTuple (Shared.heap ⟨hp, g, d, tk, os⟩) l items := ⟨_, hl, rfl, n, rfl⟩
    wp_walk using wpAny_loadPart' hl
    refine wpAny_stack_any fun st => wpAny_pure ?_
    split
    · rename_i c _ _ _ _ _
      cases (c == Value.type "enumerate")
      · wp_walk using wpAny_loadPart' hl, wpAny_pyIter_tuple hL
        exact ⟨_, rfl, h⟩
      · wp_walk using wpAny_loadPart' hl, wpAny_pyIter_tuple hL
        exact ⟨_, rfl, h⟩
    · wp_walk using wpAny_loadPart' hl, wpAny_pyIter_tuple hL
      exact ⟨_, rfl, h⟩
section
variable {prog : Program} {w : World} {A : Around} {E : Value → Shared → Prop} {s : Shared}
theorem call_enumT {l : Addr} {items : Array Value} {Q : Value → Shared → Prop} (hL : s.heap.IsTuple l items)
    (h : ∀ h', IsEnum h' (s.heap.objs.size + 1) s.heap.objs.size 0 .none → h'.IsTupleIter s.heap.objs.size l 0 → h'.objs.size = s.heap.objs.size + 2 →
      (∀ b o, s.heap.get? b = some o → h'.get? b = some o) → Q (.ref (s.heap.objs.size + 1)) { s with heap := h' }) :
    wpAny (model prog w) A (call (.type "enumerate") [.ref l]) Q E s := by
  obtain ⟨⟨c, dct, dt, sl⟩, hl, hc, n, hd⟩ := hL
  replace hc : c = .type "tuple" := hc
  replace hd : dt = .seq items n := hd
  subst hc hd
  refine callType_new F.called_enumerate (by decide) (F.typeCall_enumerate_1 _) (F.newCall_enumerate_1 _) (fun obj => F.args_object_init_2 obj _) F.entry_enumerate_new
    (meets_enumT l items n dct sl) ⟨hl, ?_⟩
  have hz : (s.heap.push { cls := .type "tuple_iterator", data := .fields #[.ref l, .int 0 0] }).objs.size = s.heap.objs.size + 1 := Heap.size_push ..
  show _ ∧ _
  rw [hz]
  have he : IsEnum ((s.heap.push { cls := .type "tuple_iterator", data := .fields #[.ref l, .int 0 0] }).push
      { cls := .type "enumerate", data := .fields #[.none, .bool false, .ref s.heap.objs.size, rawInt 0, .none, .none] }) (s.heap.objs.size + 1) s.heap.objs.size 0 .none := by
    have := Heap.get?_push_size (s.heap.push { cls := .type "tuple_iterator", data := .fields #[.ref l, .int 0 0] })
      (o := { cls := .type "enumerate", data := .fields #[.none, .bool false, .ref s.heap.objs.size, rawInt 0, .none, .none] }) rfl
    rw [hz] at this; exact this
  refine ⟨⟨_, he, rfl⟩, h _ he ⟨_, Heap.get?_push_of_some _ (Heap.get?_push_size _ rfl), rfl, rfl⟩ (by rw [Heap.size_push, hz]) fun b o x => Heap.get?_push_of_some _ (Heap.get?_push_of_some _ x)⟩
end
-- R12
/-- a turn's end in a for with an else: the ledger is as it was -/
def ElsePost (h₀ : Heap) (L : Addr) (s : Shared) (I : Addr) (oI : Obj) (news : List (Addr × Obj)) (rest : (Str → Option Value) → Prop) (Q : Flow → Shared → Prop) (f : Flow) (s₃ : Shared) : Prop :=
  match f with
  | .ret v => Q (.ret v) s₃
  | .brk => Q .next s₃
  | _ => ∃ h' tk' m', s₃ = { s with heap := h', toks := tk' } ∧ Fr h₀ L h' m' ∧ News h₀ L h' ((I, oI) :: news) ∧ rest m'
theorem ElsePost.brk {h₀ : Heap} {L : Addr} {s : Shared} {I : Addr} {oI : Obj} {news : List (Addr × Obj)} {rest : (Str → Option Value) → Prop} {Q : Flow → Shared → Prop} {s₃ : Shared} (h : Q .next s₃) : ElsePost h₀ L s I oI news rest Q .brk s₃ := h
theorem ElsePost.next {h₀ : Heap} {L : Addr} {s : Shared} {I : Addr} {oI : Obj} {news : List (Addr × Obj)} {rest : (Str → Option Value) → Prop} {Q : Flow → Shared → Prop} {h' : Heap} {tk' : Nat} {m' : Str → Option Value} (F : Fr h₀ L h' m') (N : News h₀ L h' ((I, oI) :: news)) (r : rest m') :
    ElsePost h₀ L s I oI news rest Q .next { s with heap := h', toks := tk' } := ⟨h', tk', m', rfl, F, N, r⟩
section
variable {prog : Program} {w : World} {A : Around} {E : Value → Shared → Prop} {s : Shared} {env : Env} {h₀ : Heap} {target : Expr} {body orelse : List Stmt} {Q : Flow → Shared → Prop}
/-- the turns of a for with an else over a tuple of the top -/
def ElseRest (prog : Program) (w : World) (A : Around) (E : Value → Shared → Prop) (h₀ : Heap) (env : Env) (target : Expr) (body orelse : List Stmt) (Q : Flow → Shared → Prop) (s : Shared) (I : Addr) (news : List (Addr × Obj)) : List Value → (Str → Option Value) → Prop
  | [], m => ∀ h tk, Fr h₀ env.locals h m → News h₀ env.locals h news → wpAny (model prog w) A (execs orelse env) Q E { s with heap := h, toks := tk }
  | v :: r, m => ∀ (oI : Obj) h tk, oI.cls = .type "tuple_iterator" → Fr h₀ env.locals h m → News h₀ env.locals h ((I, oI) :: news) →
      wpAny (model prog w) A (assign target env v) (fun _ s₂ => wpAny (model prog w) A (execs body env) (ElsePost h₀ env.locals s I oI news (fun m' => ElseRest prog w A E h₀ env target body orelse Q s I news r m') Q) E s₂) E { s with heap := h, toks := tk }
theorem ElseRest.zero {I : Addr} {news : List (Addr × Obj)} {m : Str → Option Value} (h : ∀ h tk, Fr h₀ env.locals h m → News h₀ env.locals h news → wpAny (model prog w) A (execs orelse env) Q E { s with heap := h, toks := tk }) :
    ElseRest prog w A E h₀ env target body orelse Q s I news [] m := h
theorem ElseRest.succ {I : Addr} {news : List (Addr × Obj)} {v : Value} {r : List Value} {m : Str → Option Value} (h : ∀ (oI : Obj) h tk, oI.cls = .type "tuple_iterator" → Fr h₀ env.locals h m → News h₀ env.locals h ((I, oI) :: news) →
      wpAny (model prog w) A (assign target env v) (fun _ s₂ => wpAny (model prog w) A (execs body env) (ElsePost h₀ env.locals s I oI news (fun m' => ElseRest prog w A E h₀ env target body orelse Q s I news r m') Q) E s₂) E { s with heap := h, toks := tk }) :
    ElseRest prog w A E h₀ env target body orelse Q s I news (v :: r) m := h

theorem For_else {y : Str} {py pos : Pos} {l : Addr} {lo : Obj} {n : Nat} {items : List Value} {m : Str → Option Value} {news : List (Addr × Obj)} {K : Frag} (hh : A.handled = none) (F : Fr h₀ env.locals s.heap m) (N : News h₀ env.locals s.heap news) (hy : m y = some (.ref l))
    (X₀ : K.In h₀) (hk : K.lookup l = some lo) (hc : lo.cls = .type "tuple") (hd : lo.data = .seq items.toArray n)
    (rest : ∀ I, (∀ p ∈ news, p.1 < I) → ElseRest prog w A E h₀ env target body orelse Q s I news items m)
    (hkf : env.scope.kind = .function) (hx : env.kindOf y = some .local) (hdb : (y == ("__debug__" : Str)) = false)
    (hs : ∀ x, foldedSetIterable (.Name y py) env x = pure x := by intro _; rfl)
    (hE : PassesOwn (model prog w) A env E := by passes_own) :
    wpAny (model prog w) A (exec (.For target (.Name y py) body orelse pos) env) Q E s := by
  refine wpAny_For (wpAny_Name (wpAny_loadName_local hkf hx F.ns hy ?_) hdb) hs
  have hT : h₀.IsTuple l items.toArray := ⟨lo, X₀ _ _ hk, hc, n, hd⟩
  have ht : Heap.IsTuple s.heap l items.toArray := let ⟨o, e, r⟩ := hT; ⟨o, F.keep _ _ e, r⟩
  refine wpAny_pyIter_tuple ht ?_
  have hnew := next_is_new F
  have rest₀ := rest s.heap.objs.size fun p hp => Heap.lt_size (N p hp).1
  have hLI : env.locals ≠ s.heap.objs.size := Nat.ne_of_lt F.ns.lt
  have hlI : l ≠ s.heap.objs.size := by obtain ⟨_, e, _⟩ := ht; exact Nat.ne_of_lt (Heap.lt_size e)
  have hNI : ∀ p ∈ news, p.1 ≠ s.heap.objs.size := fun p hp => Nat.ne_of_lt (Heap.lt_size (N p hp).1)
  have st₀ : (s.heap.push { cls := .type "tuple_iterator", data := .fields #[.ref l, .int 0 0] }).IsTupleIter s.heap.objs.size l 0 := ⟨_, Heap.get?_push_size _ rfl, rfl, rfl⟩
  generalize hI : s.heap.objs.size = I at *
  refine codeAny_forLoop_any
    (fun k s' => ∃ h' tk m' i, s' = { s with heap := h', toks := tk } ∧ h'.IsTupleIter I l i ∧ Fr h₀ env.locals h' m' ∧ News h₀ env.locals h' news ∧ ElseRest prog w A E h₀ env target body orelse Q s I news (items.drop i) m' ∧ i ≤ items.length ∧ k = items.length + 1 - i) ?_ (items.length + 1)
    ⟨_, _, m, 0, rfl, st₀, F.push _, (fun p hp => ⟨Heap.get?_push_of_some _ (N p hp).1, (N p hp).2⟩), rest₀, Nat.zero_le _, rfl⟩
  rintro k s' ⟨h', tk, m', i, rfl, hst, F', N', hR, hi, rfl⟩
  have ht' : h'.IsTuple l items.toArray := let ⟨o, e, r⟩ := hT; ⟨o, F'.keep _ _ e, r⟩
  by_cases hlt : i < items.length
  · have hdrop : items.drop i = items[i] :: items.drop (i + 1) := List.drop_eq_getElem_cons hlt
    rw [hdrop] at hR
    refine wpAny_pyNext_tuple_item hst ht' (x := items[i]) (by simp [hlt]) fun h₁ hit₁ hs₁ => ?_
    refine letGo_tupleiter hit₁ ?_
    obtain ⟨oI, heI, hcI, hdI⟩ := id hit₁
    have F₁ : Fr h₀ env.locals h₁ m' := F'.change hs₁ (Ne.symm hLI) hnew
    have N₁ : News h₀ env.locals h₁ ((I, oI) :: news) := fun p hp => by
      rcases List.mem_cons.mp hp with rfl | hp
      · exact ⟨heI, Ne.symm hLI, hnew⟩
      · exact ⟨hs₁.extBut _ _ (hNI p hp) (N' p hp).1, (N' p hp).2⟩
    refine wpAny_mono (hR oI h₁ tk hcI F₁ N₁) (fun _ s₂ h₂ => wpAny_mono h₂ (fun f s₃ h₃ => ?_) hE) hE
    have fin : (∃ h' tk' m', s₃ = { s with heap := h', toks := tk' } ∧ Fr h₀ env.locals h' m' ∧ News h₀ env.locals h' ((I, oI) :: news) ∧ ElseRest prog w A E h₀ env target body orelse Q s I news (items.drop (i + 1)) m') →
        ∃ m, m < items.length + 1 - i ∧ ∃ h' tk m' i, s₃ = { s with heap := h', toks := tk } ∧ h'.IsTupleIter I l i ∧ Fr h₀ env.locals h' m' ∧ News h₀ env.locals h' news ∧ ElseRest prog w A E h₀ env target body orelse Q s I news (items.drop i) m' ∧ i ≤ items.length ∧ m = items.length + 1 - i := by
      rintro ⟨h₄, tk₄, m₄, rfl, F₄, N₄, hR₄⟩
      exact ⟨items.length + 1 - (i + 1), by omega, h₄, tk₄, m₄, i + 1, rfl, ⟨oI, (N₄ _ (.head _)).1, hcI, hdI⟩, F₄, fun p hp => N₄ p (.tail _ hp), hR₄, hlt, rfl⟩
    cases f with
    | ret v => exact h₃
    | brk => exact h₃
    | next => exact fin h₃
    | cont => exact fin h₃
  · obtain rfl : i = items.length := by omega
    rw [List.drop_length] at hR
    refine wpAny_pyNext_tuple_end hh hst ht' (by simp) fun h₁ he₁ => ?_
    have kp : ∀ b o, b ≠ I → h'.get? b = some o → h₁.get? b = some o := fun b o hb e => he₁ b o hb e
    have F₁ : Fr h₀ env.locals h₁ m' := ⟨F'.ns.at' fun o e => kp _ o hLI e, fun b o e => kp b o (fun q => by rw [q, hnew] at e; cases e) (F'.keep b o e), F'.above⟩
    exact wpAny_mono (hR h₁ tk F₁ fun p hp => ⟨kp _ _ (hNI p hp) (N' p hp).1, (N' p hp).2⟩) (fun _ _ x => x) hE

theorem ktg_enumT {elts : List Expr} {k : Nat} {pos : Pos} {l : Addr} {lo : Obj} {vs : List Value} {xs : List Itm} {n : Nat} {m₀ : Str → Option Value} {news : List (Addr × Obj)} {K : Frag}
    (hh : A.handled = none) (F : Fr h₀ env.locals s.heap m₀) (N : News h₀ env.locals s.heap news) (X₀ : K.In h₀) (hk : K.lookup l = some lo) (hc : lo.cls = .type "tuple") (hd : lo.data = .seq vs.toArray n) (hx : enumItems 0 vs = xs)
    (rest₀ : ∀ I : Addr, (∀ p ∈ news, p.1 < I) → ItemsRest prog w A E h₀ env (.Tuple elts k pos) body Q s [(I + 1, "enumerate"), (I, "tuple_iterator")] [] xs m₀ news) :
    wpAny (model prog w) A (call (.type "enumerate") [.ref l]) (fun xv s₁ => wpAny (model prog w) A (pyIter xv) (fun it s₂ => TurnsAt prog w A h₀ env (.Tuple elts k pos) body Q E it s₂) E s₁) E s := by
  subst hx
  have hg : h₀.get? l = some lo := X₀ _ _ hk
  have hax : s.heap.get? l = some lo := F.keep _ _ hg
  have hl : s.heap.IsTuple l vs.toArray := ⟨lo, hax, hc, n, hd⟩
  have hlt : l < s.heap.objs.size := Heap.lt_size hax
  have hLs : env.locals < s.heap.objs.size := F.ns.lt
  refine call_enumT hl fun h' hE hI hsz hk' => ?_
  refine wpAny_pyIter_enum hE ?_
  refine ktg_core (tk0 := s.toks) (keep := []) (KTurns.ofWalksU (WalksT.enumerateD (draws_tuple (A := A.in1) hh s.heap.objs.size l (Nat.ne_of_lt hlt) vs.toArray) (s.heap.objs.size + 1) (Nat.succ_ne_self _) ?_ (List.mem_cons_self ..)).toU) (by simp [enumItems_length]) ?_ ?_ ?_ ?_ ?_ ?_ ?_ ?_ (F.keeps hk') (N.grown hk') trivial (rest₀ _ fun p hp => Heap.lt_size (N p hp).1)
  · intro hb
    have hb' : s.heap.objs.size + 1 = s.heap.objs.size ∨ s.heap.objs.size + 1 = l := by simpa using hb
    rcases hb' with e | e
    · exact Nat.succ_ne_self _ e
    · exact ktu_ne 1 hlt e.symm
  · rintro i v h ⟨T, vals, rfl, ⟨t, x, hx, rfl⟩, hT⟩
    refine ⟨_, enumItems_get vs 0 i (v := x) (by simpa using hx), T, t, rfl, ?_⟩
    show IsTup h T #[.int ((0 + i : Nat) : Int) t, x]
    rw [Nat.zero_add]
    exact hT
  · rintro i h ⟨⟨old, he⟩, ⟨oi, hoi, hic, _⟩, _⟩
    have he' : ∃ oe : Obj, h.get? (s.heap.objs.size + 1) = some oe ∧ oe.cls = .type "enumerate" := ⟨_, he, rfl⟩
    obtain ⟨oe, h1, h2⟩ := he'
    refine ⟨[(s.heap.objs.size + 1, oe), (s.heap.objs.size, oi)], ⟨⟨rfl, h2⟩, ⟨rfl, hic⟩, trivial⟩, fun p hp => ?_⟩
    rcases List.mem_cons.mp hp with rfl | hp
    · exact h1
    · rw [List.mem_singleton.mp hp]; exact hoi
  · intro b hb
    have hb' : b = s.heap.objs.size + 1 ∨ b = s.heap.objs.size := by simpa using hb
    rcases hb' with rfl | rfl
    · exact ⟨by simp, ktu_new F (Nat.le_add_right _ _)⟩
    · exact ⟨by simp, ktu_new F (Nat.le_refl _)⟩
  · intro b hb
    simpa using hb
  · intro b hb
    have hb' : b = s.heap.objs.size + 1 ∨ b = s.heap.objs.size ∨ b = l := by simpa using hb
    rcases hb' with rfl | rfl | rfl
    · exact .inl (by simp)
    · exact .inl (by simp)
    · exact .inr (.inr ⟨lo, hg⟩)
  · intro hI'
    have hb' : env.locals = s.heap.objs.size + 1 ∨ env.locals = s.heap.objs.size ∨ env.locals = l := by simpa using hI'
    rcases hb' with e | e | e
    · exact ktu_ne 1 hLs e
    · exact Nat.ne_of_lt hLs e
    · exact absurd (Heap.lt_size hg) (Nat.not_lt.mpr (e ▸ F.above))
  · intro p hp hI'
    have hb' : p.1 = s.heap.objs.size + 1 ∨ p.1 = s.heap.objs.size := by simpa using hI'
    have hlp := Heap.lt_size (N p hp).1
    rcases hb' with e | e
    · exact ktu_ne 1 hlp e
    · exact Nat.ne_of_lt hlp e
  · exact ⟨⟨.none, hE⟩, hI, hl.at fun o e => hk' l o e⟩
end
-- R13k
def pickK (n : Int) : List (Int × Nat) → Nat
  | [] => 63
  | (b, c) :: r => if Builtin.bitAnd n 61440 = b then c else pickK n r
def pickB (n : Int) : List (Int × Nat) → Nat
  | [] => 45
  | (b, c) :: r => if Builtin.bitAnd n b = b then c else pickB n r
theorem pickK_t {n b : Int} {c : Nat} {r : List (Int × Nat)} (h : Builtin.bitAnd n 61440 = b) : pickK n ((b, c) :: r) = c := if_pos h
theorem pickK_f {n b : Int} {c : Nat} {r : List (Int × Nat)} (h : ¬ Builtin.bitAnd n 61440 = b) : pickK n ((b, c) :: r) = pickK n r := if_neg h
theorem pickB_t {n b : Int} {c : Nat} {r : List (Int × Nat)} (h : Builtin.bitAnd n b = b) : pickB n ((b, c) :: r) = c := if_pos h
theorem pickB_f {n b : Int} {c : Nat} {r : List (Int × Nat)} (h : ¬ Builtin.bitAnd n b = b) : pickB n ((b, c) :: r) = pickB n r := if_neg h
section
variable {prog : Program} {w : World} {A : Around} {E : Value → Shared → Prop} {s : Shared} {h₀ : Heap} {L : Addr} {m : Str → Option Value} {news : List (Addr × Obj)}
end
theorem join_ten (a b c d e f g h i j : Nat) : Txt.join (Str.ofString "") [ch a, ch b, ch c, ch d, ch e, ch f, ch g, ch h, ch i, ch j] = ⟨#[a, b, c, d, e, f, g, h, i, j]⟩ := rfl
section
variable {prog : Program} {w : World} {A : Around} {E : Value → Shared → Prop} {s : Shared} {h₀ : Heap} {L : Addr} {news : List (Addr × Obj)} {Q : Value → Shared → Prop}
theorem join10 {D : Addr} {k : Nat} {t u0 u1 u2 u3 u4 u5 u6 u7 u8 u9 : Tok} {a b c d e f g h i j : Nat} (N : News h₀ L s.heap news) (hm : (D, PySem.W.listOf #[.str (ch a) u0, .str (ch b) u1, .str (ch c) u2, .str (ch d) u3, .str (ch e) u4, .str (ch f) u5, .str (ch g) u6, .str (ch h) u7, .str (ch i) u8, .str (ch j) u9] k) ∈ news)
    (hq : ∀ t' tk, Q (.str ⟨#[a, b, c, d, e, f, g, h, i, j]⟩ t') { s with toks := tk }) : wpAny (model prog w) A (call (.builtin "str.join") [.str (Str.ofString "") t, .ref D]) Q E s := by
  refine join_list (ys := [ch a, ch b, ch c, ch d, ch e, ch f, ch g, ch h, ch i, ch j]) (kso_isList N hm rfl) (.cons _ _ (.cons _ _ (.cons _ _ (.cons _ _ (.cons _ _ (.cons _ _ (.cons _ _ (.cons _ _ (.cons _ _ (.cons _ _ .nil)))))))))) (Nat.le_of_ble_eq_true rfl) ?_
  intro t' k
  rw [join_ten]
  exact hq t' k
end
-- R14k
abbrev tupO (its : Array Value) : Obj := { cls := .type "tuple", data := .seq its }
/-- values that are the given texts -/
inductive TA : List Value → List Str → Prop
  | nil : TA [] []
  | cons {x : Str} {t : Tok} {vs : List Value} {xs : List Str} : TA vs xs → TA (.str x t :: vs) (x :: xs)
theorem TA.length {vs : List Value} {xs : List Str} (h : TA vs xs) : vs.length = xs.length := by
  induction h with
  | nil => rfl
  | cons _ ih => simp [ih]
theorem TA.snoc {vs : List Value} {xs : List Str} {x : Str} {t : Tok} (h : TA vs xs) : TA (vs ++ [.str x t]) (xs ++ [x]) := by
  induction h with
  | nil => exact .cons .nil
  | cons _ ih => exact .cons ih
/-- the marks of the places below k at which the rows part -/
abbrev mk (i c : Nat) : Str := ⟨#[48 + i, c]⟩
def df (f g : Nat → Nat) : Nat → List Str
  | 0 => []
  | k + 1 => df f g k ++ (if f k = g k then [] else [mk k (f k)])
theorem df_len (f g : Nat → Nat) : ∀ k, (df f g k).length ≤ k
  | 0 => Nat.le_refl _
  | k + 1 => by
    have := df_len f g k
    unfold df
    rw [List.length_append]
    split <;> simp <;> omega
theorem TA.keep {its : Array Value} {f g : Nat → Nat} {k : Nat} (h : TA its.toList (df f g k)) (e : f k = g k) : TA its.toList (df f g (k + 1)) := by
  unfold df
  rw [if_pos e, List.append_nil]
  exact h
theorem TA.put {its : Array Value} {f g : Nat → Nat} {k : Nat} {t : Tok} (h : TA its.toList (df f g k)) (e : f k ≠ g k) : TA (its.push (.str (mk k (f k)) t)).toList (df f g (k + 1)) := by
  unfold df
  rw [if_neg e, Array.toList_push]
  exact h.snoc
theorem lt2 {p x y : Nat} : ((⟨#[p, x]⟩ : Str).cps.toList < (⟨#[p, y]⟩ : Str).cps.toList) ↔ x < y := by
  simp [List.cons_lt_cons_iff]
theorem ne_lt {p x y : Nat} (h : (⟨#[p, x]⟩ : Str).cps.toList < (⟨#[p, y]⟩ : Str).cps.toList) : x ≠ y := Nat.ne_of_lt (lt2.mp h)
theorem ne_gt {p x y : Nat} (h : (⟨#[p, y]⟩ : Str).cps.toList < (⟨#[p, x]⟩ : Str).cps.toList) : x ≠ y := Nat.ne_of_gt (lt2.mp h)
theorem eq_of {p x y : Nat} (h : ¬ (⟨#[p, x]⟩ : Str).cps.toList < (⟨#[p, y]⟩ : Str).cps.toList) (h' : ¬ (⟨#[p, y]⟩ : Str).cps.toList < (⟨#[p, x]⟩ : Str).cps.toList) : x = y := by
  rw [lt2] at h h'
  omega

theorem beq2 {p q x y : Nat} (h : p ≠ q) : ((⟨#[p, x]⟩ : Str) == ⟨#[q, y]⟩) = false := by
  rw [beq_eq_false_iff_ne]
  intro e
  have := congrArg (fun s : Str => s.cps.toList) e
  simp at this
  exact h this.1
section
variable {prog : Program} {w : World} {A : Around} {E : Value → Shared → Prop} {s : Shared} {Q : Value → Shared → Prop} {p q x y : Nat} {t u : Tok}
theorem ltD (hd : p < q) (h : Q (.bool true) s) : wpAny (model prog w) A (compareOp .Lt (.str ⟨#[p, x]⟩ t) (.str ⟨#[q, y]⟩ u)) Q E s := by
  refine lt_str ?_
  have : decide ((⟨#[p, x]⟩ : Str).cps.toList < (⟨#[q, y]⟩ : Str).cps.toList) = true := by simp [List.cons_lt_cons_iff, hd]
  rw [this]; exact h
theorem ltU (hd : q < p) (h : Q (.bool false) s) : wpAny (model prog w) A (compareOp .Lt (.str ⟨#[p, x]⟩ t) (.str ⟨#[q, y]⟩ u)) Q E s := by
  refine lt_str ?_
  have : decide ((⟨#[p, x]⟩ : Str).cps.toList < (⟨#[q, y]⟩ : Str).cps.toList) = false := by
    simp [List.cons_lt_cons_iff]; omega
  rw [this]; exact h
theorem gtU (hd : q < p) (h : Q (.bool true) s) : wpAny (model prog w) A (compareOp .Gt (.str ⟨#[p, x]⟩ t) (.str ⟨#[q, y]⟩ u)) Q E s := by
  refine P.gt_str ?_
  have : decide ((⟨#[q, y]⟩ : Str).cps.toList < (⟨#[p, x]⟩ : Str).cps.toList) = true := by simp [List.cons_lt_cons_iff, hd]
  rw [this]; exact h
end
/-- the loop of sorted_list_difference at the place i -/
def SldAt (h₀ : Heap) (L mi un l k lc : Addr) (ol ok oc : Obj) (f g : Nat → Nat) (s₀ : Shared) (i : Nat) (s : Shared) : Prop :=
  ∃ (h : Heap) (tk : Nat) (m' : Str → Option Value) (ti tj : Tok) (its1 its2 : Array Value) (n1 n2 : Nat), s = { s₀ with heap := h, toks := tk } ∧
    Fr h₀ L h (fun y => if y = Str.ofString "expected" then some (.ref l) else if y = Str.ofString "actual" then some (.ref k) else if y = Str.ofString "missing" then some (.ref mi) else if y = Str.ofString "unexpected" then some (.ref un)
      else if y = Str.ofString "i" then some (.int (i : Int) ti) else if y = Str.ofString "j" then some (.int (i : Int) tj) else m' y) ∧
    News h₀ L h [(un, PySem.W.listOf its2 n2), (mi, PySem.W.listOf its1 n1), (l, ol), (k, ok), (lc, oc)] ∧ TA its1.toList (df f g i) ∧ TA its2.toList (df g f i)
theorem SldAt.intro {h₀ : Heap} {L mi un l k lc : Addr} {ol ok oc : Obj} {f g : Nat → Nat} {s₀ : Shared} {i : Nat} {h : Heap} {tk : Nat} {m : Str → Option Value} {ti tj : Tok} {its1 its2 : Array Value} {n1 n2 : Nat} {big : List (Addr × Obj)}
    (F : Fr h₀ L h m) (N : News h₀ L h big) (m1 : m (Str.ofString "expected") = some (.ref l)) (m2 : m (Str.ofString "actual") = some (.ref k)) (m3 : m (Str.ofString "missing") = some (.ref mi)) (m4 : m (Str.ofString "unexpected") = some (.ref un))
    (m5 : m (Str.ofString "i") = some (.int (i : Int) ti)) (m6 : m (Str.ofString "j") = some (.int (i : Int) tj))
    (hu : (un, PySem.W.listOf its2 n2) ∈ big) (hm : (mi, PySem.W.listOf its1 n1) ∈ big) (hl : (l, ol) ∈ big) (hk : (k, ok) ∈ big) (hc : (lc, oc) ∈ big) (t1 : TA its1.toList (df f g i)) (t2 : TA its2.toList (df g f i)) :
    SldAt h₀ L mi un l k lc ol ok oc f g s₀ i { s₀ with heap := h, toks := tk } := by
  refine ⟨h, tk, m, ti, tj, its1, its2, n1, n2, rfl, ?_, ?_, t1, t2⟩
  · have e : (fun y => if y = Str.ofString "expected" then some (.ref l) else if y = Str.ofString "actual" then some (.ref k) else if y = Str.ofString "missing" then some (.ref mi) else if y = Str.ofString "unexpected" then some (.ref un)
      else if y = Str.ofString "i" then some (.int (i : Int) ti) else if y = Str.ofString "j" then some (.int (i : Int) tj) else m y) = m := by
      funext y
      repeat' split
      all_goals (try (rename_i e; rw [e]; first | exact m1.symm | exact m2.symm | exact m3.symm | exact m4.symm | exact m5.symm | exact m6.symm))
      rfl
    rw [e]; exact F
  · refine cb_drop N fun p hp => ?_
    simp only [List.mem_cons, List.not_mem_nil, or_false] at hp
    rcases hp with rfl | rfl | rfl | rfl | rfl
    · exact hu
    · exact hm
    · exact hl
    · exact hk
    · exact hc
section
variable {prog : Program} {w : World} {A : Around} {E : Value → Shared → Prop} {s : Shared} {env : Env} {test : Expr} {body orelse : List Stmt} {Q : Flow → Shared → Prop} {n : Nat}
theorem whl_any {n' : Nat} (h : WhlRest prog w A E env test body orelse Q n s) : WhlRest prog w A E env test body orelse Q n' s := h
end
section
variable {prog : Program} {w : World} {A : Around} {E : Value → Shared → Prop} {s : Shared} {h₀ : Heap} {L D b : Addr} {m : Str → Option Value} {news news' : List (Addr × Obj)} {its : Array Value} {n n2 : Nat} {Q : Value → Shared → Prop}
theorem ext_door {a b : Nat} (h : a + b ≤ 100) {e : Bool} : ¬(!e && Builtin.List.listTooLong (a + b)) = true := by
  have : Builtin.List.listTooLong (a + b) = false := by
    unfold Builtin.List.listTooLong
    simp only [decide_eq_false_iff_not]
    have := sizeLine_eq
    omega
  rw [this, Bool.and_false]
  exact Bool.false_ne_true
theorem ext0 (F : Fr h₀ L s.heap m) (N : News h₀ L s.heap news) (hb : (b, PySem.W.listOf #[] n2) ∈ news) (hlen : its.toList.length ≤ 64) (U : Upd D (PySem.W.listOf its n) (PySem.W.listOf its n) news news')
    (h : ∀ h', Fr h₀ L h' m → News h₀ L h' news' → Q .none { s with heap := h' }) : wpAny (model prog w) A (call (.builtin "list.extend") [.ref D, .ref b]) Q E s :=
  kxn_extend F N hb rfl U (ext_door (by simp at hlen ⊢; omega)) (Nat.le_trans hlen (by rw [sizeLine_eq]; decide)) (by rw [sizeLine_eq]; simp at hlen ⊢; omega) h
theorem ext1 {v : Value} (F : Fr h₀ L s.heap m) (N : News h₀ L s.heap news) (hb : (b, PySem.W.listOf #[v] n2) ∈ news) (hlen : its.toList.length ≤ 64) (U : Upd D (PySem.W.listOf its n) (PySem.W.listOf (its.push v) (n + 1)) news news')
    (h : ∀ h', Fr h₀ L h' m → News h₀ L h' news' → Q .none { s with heap := h' }) : wpAny (model prog w) A (call (.builtin "list.extend") [.ref D, .ref b]) Q E s := by
  have e : (its.toList ++ #[v].toList).toArray = its.push v := by
    apply Array.toList_inj.mp; simp
  exact kl_extend F N hb rfl (by simp) (by rw [e]; exact U) (ext_door (by simp at hlen ⊢; omega)) (Nat.le_trans hlen (by rw [sizeLine_eq]; decide)) (by rw [sizeLine_eq]; simp at hlen ⊢; omega) h
end
-- R15
/-- the contract of a def that catches, called from the law's own frame -/
def SaysO (lv : Nat) (w : World) (f : Addr) (vs : List Value) (own : List (Addr × Obj)) (post : Value → List (Addr × Obj) → Prop) : Prop :=
  ∀ (mean : ExcName → Option Value) (mg mb : Str → Option Value) (dp un : Nat) (gd : Option (List Code)) (cn : Str) (cs : Scope) (a : Addr) (ccd : Value) (cl : List (Str × Addr)) (h₀ : Heap) (L : Addr) (m : Str → Option Value) (news : List (Addr × Obj)) (s : Shared)
    (Q E : Value → Shared → Prop),
    Fr h₀ L s.heap m → (Mine.hd.heap_39 w.params).In h₀ → News h₀ L s.heap news →
    Top Mine.hd.view_39 (looseW Mine.hd.view_39 [Str.ofString "_filemode_table"]) mean mg mb h₀ → cs.kind = .function →
    dp + lv < recursionLimit → un + 8 * lv < cLine → (∀ p ∈ own, p ∈ news) →
    (∀ r tl h' tk', post r tl → Fr h₀ L h' m → News h₀ L h' (tl ++ news) → (∀ p ∈ tl, LCg.Off1 p.1 news) → Q r { s with heap := h', toks := tk' }) →
    wpAny (model PySem.Challenge.rw_oc0089_01.row.prog w) (ktrTop dp un gd cn cs L a ccd cl []) (call (.ref f) vs) Q E s
theorem SaysO.use {lv : Nat} {w : World} {f : Addr} {vs : List Value} {own : List (Addr × Obj)} {post : Value → List (Addr × Obj) → Prop} (C : SaysO lv w f vs own post)
    {mean : ExcName → Option Value} {mg mb : Str → Option Value} {dp un : Nat} {gd : Option (List Code)} {cn : Str} {cs : Scope} {a : Addr} {ccd : Value} {cl : List (Str × Addr)} {h₀ : Heap} {L : Addr} {m : Str → Option Value} {news : List (Addr × Obj)} {s : Shared}
    {Q E : Value → Shared → Prop}
    (F : Fr h₀ L s.heap m) (X : (Mine.hd.heap_39 w.params).In h₀) (N : News h₀ L s.heap news)
    (T : Top Mine.hd.view_39 (looseW Mine.hd.view_39 [Str.ofString "_filemode_table"]) mean mg mb h₀) (hk : cs.kind = .function)
    (hd : dp + lv < recursionLimit) (hu : un + 8 * lv < cLine) (hs : ∀ p ∈ own, p ∈ news)
    (ret : ∀ r tl h' tk', post r tl → Fr h₀ L h' m → News h₀ L h' (tl ++ news) → (∀ p ∈ tl, LCg.Off1 p.1 news) → Q r { s with heap := h', toks := tk' }) :
    wpAny (model PySem.Challenge.rw_oc0089_01.row.prog w) (ktrTop dp un gd cn cs L a ccd cl []) (call (.ref f) vs) Q E s :=
  C _ _ _ _ _ _ _ _ _ _ _ _ _ _ _ _ _ _ F X N T hk hd hu hs ret
section
variable {prog : Program} {w : World} {A : Around} {s : Shared} {K : Frag} {L : Addr} {h₀ : Heap} {m mg mb : Str → Option Value} {news own : List (Addr × Obj)} {p : Program} {loose : List Str} {mean : ExcName → Option Value}
theorem enterT {env : Env} {R : Result → Shared → Prop} {name qual : Str} {params : Arguments} {body : List Stmt} {scope : Scope} {dV kV doc pm cdv ct oc : Value} {an od : Option Addr} {osl : Array (Option Value)} {f : Addr} {args : Args} {binds : List (Str × Value)}
    (F : Fr h₀ L s.heap m) (X₀ : K.In h₀) (N : News h₀ L s.heap own) (T : Top p loose mean mg mb h₀) (_hA : A.frames = some [env]) (hf : env.frame = some L) (hke : env.scope.kind = .function)
    (ho : K.lookup f = some ⟨oc, od, .func (fnOf name qual params body scope dV kV doc pm an cdv ct), osl⟩) (hcd : codeIn K cdv qual = true) (hroom : A.depth < recursionLimit)
    (hbind : BindsTo s (fnOf name qual params body scope dV kV doc pm an cdv ct) args binds) (hloc : ∀ y ∈ binds, scope.names.lookup y.1 = some .local)
    (h : ∀ g L' h₁ oL, TI.Caller h₀ L m oL → TI.Frs [env] [(L, oL)] → (∀ p ∈ own, p.1 ≠ L) → Fr g L' h₁ (fun y => binds.reverse.lookup y) → News g L' h₁ (own ++ [(L, oL)]) → K.In g → Top p loose mean mg mb g →
      (∀ b o, s.heap.get? b = some o → b ∉ L :: own.map (·.1) → g.get? b = some o) → (∀ p ∈ own, p.1 < L') → L < L' →
      wpAny (model prog w) (A.deeper (envOf qual scope L' f cdv)) (execs body (envOf qual scope L' f cdv))
        (fun fl s' => TI.LeaveI s' (R (.ok (.ret (match fl with | .ret v => v | _ => .none))) s'))
        (fun e s' => wpAny (model prog w) (A.deeper (envOf qual scope L' f cdv)) (leaving (envOf qual scope L' f cdv) e) (fun _ s'' => R (.error e) s'') (fun e' s'' => R (.error e') s'') s')
        { s with heap := h₁, toks := s.toks + binds.length })
    (hco : scope.isCoroutine = false) (hgen : scope.isGenerator = false) (hk : scope.kind = .function)
    (hcell : ∀ x ∈ scope.names, x.2 ≠ .cell) : codeAny (model prog w) A (.call (.ref f) args) R s := by
  have X := X₀.keeps F.keep
  obtain ⟨oL, es, ep, hL, hLd, hLk, hLf⟩ := F.ns
  have hLt := Heap.lt_size hL
  have st : ∀ b o, h₀.get? b = some o → (hideAll s.heap (L :: own.map (·.1))).get? b = some o := fun b o e => hideAll_get _ (F.keep b o e) fun q => by
    rcases List.mem_cons.mp q with rfl | q
    · rw [Heap.get?_none_of_le F.above] at e; cases e
    · obtain ⟨p, hp, rfl⟩ := List.mem_map.mp q
      rw [(N p hp).2.2] at e; cases e
  refine codeAny_call_def (fd := fnOf name qual params body scope dV kV doc pm an cdv ct) (body := body) (binds := binds) hroom (X _ _ ho) rfl (T.nolimit.keeps F.keep) (codeRec_of X hcd) rfl hbind hcell hloc (fun h₁ hns hk₁ => ?_) hco hgen hk
  refine wpAny_mono (h (hideAll s.heap (L :: own.map (·.1))) s.heap.objs.size h₁ oL ⟨fun h' sl e => ⟨_, es, ep, e, hLd, hLk, hLf⟩, ⟨es, ep, hLd⟩, F.above⟩ ⟨by rw [hke]; decide, hf, ⟨es, ep, hLd⟩, trivial⟩ (fun p hp => (N p hp).2.1)
    ⟨hns, fun b o e => hk₁ b o (of_hideAll _ e), Nat.le_of_eq (hideAll_size _ _)⟩ (fun p hp => ?_) (X₀.keeps st) (T.keeps st) (fun b o e q => hideAll_get _ e q) (fun p hp => Heap.lt_size (N p hp).1) hLt) (fun _ _ x => x) fun _ _ x => x
  rcases List.mem_append.mp hp with hp | hp
  · exact ⟨hk₁ _ _ (N p hp).1, Nat.ne_of_lt (Heap.lt_size (N p hp).1), hideAll_none _ (List.mem_cons_of_mem _ (List.mem_map_of_mem hp))⟩
  · rcases List.mem_cons.mp hp with rfl | hp
    · exact ⟨hk₁ _ _ hL, Nat.ne_of_lt hLt, hideAll_none _ (List.mem_cons_self ..)⟩
    · exact nomatch hp
/-- the end of such a contract: a made tuple of two made lists is handed back -/
theorem finT3 {g h' : Heap} {L' : Addr} {m' : Str → Option Value} {all : List (Addr × Obj)} {Q : Value → Shared → Prop} {post : Value → List (Addr × Obj) → Prop} {D D1 D2 : Addr} {o o1 o2 oL : Obj} {sl : Array (Option Value)} {tk : Nat} (Nn : News h₀ L s.heap news) (F : Fr h₀ L s.heap m) (C : TI.Caller h₀ L m oL) (hs : ∀ p ∈ own, p ∈ news)
    (hg : ∀ b o, s.heap.get? b = some o → b ∉ L :: own.map (·.1) → g.get? b = some o)
    (hret : ∀ r tl h' tk', post r tl → Fr h₀ L h' m → News h₀ L h' (tl ++ news) → (∀ p ∈ tl, LCg.Off1 p.1 news) → Q r { s with heap := h', toks := tk' })
    (F' : Fr g L' h' m') (N' : News g L' h' all) (hL : (L, { oL with slots := sl }) ∈ all) (hown : ∀ p ∈ own, p ∈ all) (hm : (D, o) ∈ all) (hm1 : (D1, o1) ∈ all) (hm2 : (D2, o2) ∈ all) (hoff : ∀ q ∈ own, D ≠ q.1) (hoff1 : ∀ q ∈ own, D1 ≠ q.1) (hoff2 : ∀ q ∈ own, D2 ≠ q.1)
    (hD : D ≠ L) (hD1 : D1 ≠ L) (hD2 : D2 ≠ L) (hp : post (.ref D) [(D, o), (D1, o1), (D2, o2)]) : Q (.ref D) { s with heap := h', toks := tk } := by
  have st : ∀ b o, h₀.get? b = some o → g.get? b = some o := fun b o e => hg _ _ (F.keep b o e) fun q => by
    rcases List.mem_cons.mp q with rfl | q
    · rw [Heap.get?_none_of_le F.above] at e; cases e
    · obtain ⟨p, hp, rfl⟩ := List.mem_map.mp q
      rw [(Nn p (hs p hp)).2.2] at e; cases e
  have FF : Fr h₀ L h' m := ⟨C.ns _ sl (N' _ hL).1, fun b o e => F'.keep _ _ (st b o e), F.above⟩
  have key : ∀ q ∈ news, (q ∈ own) ∨ g.get? q.1 = some q.2 := fun q hq => by
    by_cases hm : q.1 ∈ own.map (·.1)
    · obtain ⟨p, hp, e⟩ := List.mem_map.mp hm
      have h1 := (Nn p (hs p hp)).1
      have h2 := (Nn q hq).1
      have e' : p.1 = q.1 := e
      rw [e', h2] at h1
      have : p = q := Prod.ext e' (Option.some.inj h1).symm
      exact .inl (this ▸ hp)
    · exact .inr (hg _ _ (Nn q hq).1 fun z => by
        rcases List.mem_cons.mp z with z | z
        · exact (Nn q hq).2.1 z
        · exact hm z)
  have one : ∀ p : Addr × Obj, p ∈ all → p.1 ≠ L → News h₀ L h' [p] := fun p hp hne q hq => by
    rw [List.mem_singleton.mp hq]
    refine ⟨(N' p hp).1, hne, ?_⟩
    cases e : h₀.get? p.1 with
    | none => rfl
    | some o => have := (N' p hp).2.2; rw [st _ _ e] at this; cases this
  have off : ∀ p : Addr × Obj, p ∈ all → (∀ q ∈ own, p.1 ≠ q.1) → LCg.Off1 p.1 news := fun p hp ho => off1_of fun q hq e => by
    rcases key q hq with h | h
    · exact ho q h e
    · have h1 := (N' p hp).2.2
      rw [e, h] at h1
      cases h1
  refine hret _ [(D, o), (D1, o1), (D2, o2)] h' tk hp FF (fun q hq => ?_) (List.forall_mem_cons.mpr ⟨off _ hm hoff, List.forall_mem_cons.mpr ⟨off _ hm1 hoff1, List.forall_mem_cons.mpr ⟨off _ hm2 hoff2, List.forall_mem_nil _⟩⟩⟩)
  rcases List.mem_append.mp hq with hq | hq
  · simp only [List.mem_cons, List.not_mem_nil, or_false] at hq
    rcases hq with rfl | rfl | rfl
    · exact one _ hm hD _ (.head _)
    · exact one _ hm1 hD1 _ (.head _)
    · exact one _ hm2 hD2 _ (.head _)
  · rcases key q hq with h | h
    · have h1 := N' q (hown q h)
      exact ⟨h1.1, (Nn q hq).2⟩
    · exact ⟨F'.keep _ _ h, (Nn q hq).2⟩
end
-- R16
section
variable {prog : Program} {w : World} {A : Around} {E : Value → Shared → Prop} {s : Shared} {g : Heap} {L' Lc e : Addr} {m : Str → Option Value} {new : List (Addr × Obj)} {oL : Obj} {env env' : Env}
/-- a frame is noted on an exception that has no traceback yet; the exception's other parts stay -/
theorem noteCore {ob : Obj} {vs : Array Value} {Q : Unit → Shared → Prop} (hfr : A.frames = some [env', env]) (hf' : env'.frame = some L') (hk' : env'.scope.kind ≠ .module) (Fs : TI.Frs [env] [(Lc, oL)])
    (F : Fr g L' s.heap m) (N : News g L' s.heap (new ++ [(Lc, oL)])) (hne : ∀ p ∈ new, p.1 ≠ Lc) (he : s.heap.get? e = some ob) (heg : g.get? e = none) (hen : ∀ p ∈ new, p.1 ≠ e) (hd : ob.data = .fields vs) (h1 : vs[1]? = some .none)
    (k : ∀ h' sl T ob' oT ts, T ≠ e → T ≠ L' → (∀ p ∈ new ++ [(Lc, ({ oL with slots := sl } : Obj))], p.1 ≠ T) → g.get? T = none → h'.get? e = some ob' → ob'.cls = ob.cls → ob'.data = .fields (vs.setIfInBounds 1 (.ref T)) →
      h'.get? T = some oT → oT.data = .fields ts → ts[3]? = some (rawInt L') → Fr g L' h' m → News g L' h' (new ++ [(Lc, { oL with slots := sl })]) → TI.Frs [env] [(Lc, { oL with slots := sl })] → Q () { s with heap := h' }) :
    wpAny (model prog w) A (noteFrame (.ref e) env') Q E s := by
  obtain ⟨hke, hfe, ⟨es, ep, hLd⟩, _⟩ := Fs
  have hLc := N (Lc, oL) (List.mem_append_right _ (.head _))
  have hgL : g.get? L' = none := Heap.get?_none_of_le F.above
  obtain ⟨o', es', ep', hL', hLd', rest'⟩ := id F.ns
  have hl : s.heap.FunFrames g [env', env] := ⟨hk', ⟨L', o', hf', hgL, hL', fun ws q => by rw [hLd'] at q; cases q⟩, hke, ⟨Lc, oL, hfe, hLc.2.2, hLc.1, fun ws q => by rw [hLd] at q; cases q⟩, trivial⟩
  have hfs : [env', env].filterMap (·.frame) = [L', Lc] := by simp [hf', hfe]
  have hsz : 1 < vs.size := (Array.getElem?_eq_some_iff.mp h1).1
  have heL : e ≠ L' := fun q => by
    rw [q, hL'] at he; cases he; rw [hLd'] at hd; cases hd
  have heC : e ≠ Lc := fun q => by
    rw [q, hLc.1] at he; cases he; rw [hLd] at hd; cases hd
  unfold noteFrame
  simp only [hf']
  refine wpAny_bind (wpAny_field he hd h1 ?_)
  rw [if_neg (by decide)]
  refine wpAny_bind (wpAny_frameOf_fun hfr hl hf' fun h₁ hs₁ => ?_)
  rw [hfs] at hs₁
  refine wpAny_bind (wpAny_entryPlaceOf fun pl hpl => ?_)
  unfold EntryCells.newEntry newFields
  refine wpAny_bind (wpAny_newObj_type ?_ (hpl.sizeOk5 _ _ _ _ _))
  have he₁ : h₁.get? e = some ob := (hs₁.2.1 e (by simp [heL, heC])).trans he
  generalize hnT : ({ cls := .type "traceback", dict := none, data := .fields ([Value.none, .ref L', .none, rawInt L', .none] ++ (if pl.isEmpty then List.replicate 6 Value.none else pl)).toArray } : Obj) = nT
  have hdT : nT.data = .fields ([Value.none, .ref L', .none, rawInt L', .none] ++ (if pl.isEmpty then List.replicate 6 Value.none else pl)).toArray := by rw [← hnT]
  have hfT : nT.isFreed = false := Obj.isFreed_of_fields hdT
  have he₂ := Heap.get?_push_of_some (h := h₁) nT he₁
  refine wpAny_setField he₂ hd hsz ?_
  have hTe : h₁.objs.size ≠ e := Nat.ne_of_gt (Heap.lt_size he₁)
  have hd₃ := Obj.data_mapFields hd (·.setIfInBounds 1 (Value.ref h₁.objs.size))
  have he₃ := Heap.get?_update_self (Obj.mapFields (·.setIfInBounds 1 (Value.ref h₁.objs.size))) he₂ (Obj.isFreed_of_fields hd₃)
  have hT₃ := (Heap.get?_update_other (h₁.push nT) (Obj.mapFields (·.setIfInBounds 1 (Value.ref h₁.objs.size))) (Ne.symm hTe)).trans (Heap.get?_push_size h₁ hfT)
  have keep : ∀ b o, b ≠ e → h₁.get? b = some o → ((h₁.push nT).update e (Obj.mapFields (·.setIfInBounds 1 (Value.ref h₁.objs.size)))).get? b = some o := fun b o hbe hb => by
    rw [Heap.get?_update_other _ _ (Ne.symm hbe)]
    exact Heap.get?_push_of_some _ hb
  obtain ⟨sl, hsl⟩ := hs₁.2.2 Lc oL hLc.1
  obtain ⟨sl', hsl'⟩ := hs₁.2.2 L' o' hL'
  have old : ∀ b o, b ≠ L' → b ≠ Lc → s.heap.get? b = some o → h₁.get? b = some o := fun b o b1 b2 hb => (hs₁.2.1 b (by simp [b1, b2])).trans hb
  have hT0 : ∀ b o, h₁.get? b = some o → b ≠ h₁.objs.size := fun b o hb => Nat.ne_of_lt (Heap.lt_size hb)
  have hgT : g.get? h₁.objs.size = none := by
    cases q : g.get? h₁.objs.size with
    | none => rfl
    | some o =>
      have := Heap.lt_size (F.keep _ _ q)
      rw [← hs₁.1] at this
      exact absurd this (Nat.lt_irrefl _)
  refine k _ sl h₁.objs.size _ nT _ hTe (fun q => hT0 L' _ hsl' q.symm) (fun p hp => ?_) hgT he₃ (Obj.cls_mapFields _ _) hd₃ hT₃ hdT (by first | (simp; done) | (rcases hpl with rfl | ⟨_, _, _, _, _, _, _, rfl⟩ <;> simp)) ?_ (fun p hp => ?_) ⟨hke, hfe, ⟨es, ep, hLd⟩, trivial⟩
  · rcases List.mem_append.mp hp with hp | hp
    · have hq := N p (List.mem_append_left _ hp)
      exact hT0 _ _ (old p.1 p.2 hq.2.1 (hne p hp) hq.1)
    · rw [List.mem_singleton.mp hp]
      exact hT0 _ _ hsl
  · exact ⟨⟨_, es', ep', keep _ _ (Ne.symm heL) hsl', hLd', rest'⟩, fun b o hb => keep b o (fun q => by rw [q, heg] at hb; cases hb) (old b o (fun q => by rw [q, hgL] at hb; cases hb) (fun q => by rw [q, hLc.2.2] at hb; cases hb) (F.keep b o hb)), F.above⟩
  · rcases List.mem_append.mp hp with hp | hp
    · have hq := N p (List.mem_append_left _ hp)
      exact ⟨keep _ _ (hen p hp) (old _ _ hq.2.1 (hne p hp) hq.1), hq.2⟩
    · rw [List.mem_singleton.mp hp]
      exact ⟨keep _ _ (Ne.symm heC) hsl, hLc.2⟩

/-- an exception meets a finally -/
theorem finR {h : Heap} {X : String} {final : List Stmt} {Q : Flow → Shared → Prop} {E₂ : Value → Shared → Prop} (hfr : A.frames = some [env', env]) (hf' : env'.frame = some L') (hk' : env'.scope.kind ≠ .module) (Fs : TI.Frs [env] [(Lc, oL)])
    (hx : Heap.NewExc h s.heap e X) (F : Fr g L' h m) (N : News g L' h (new ++ [(Lc, oL)])) (hne : ∀ p ∈ new, p.1 ≠ Lc)
    (k : ∀ h' sl ob' vs', ob'.cls = .type X → ob'.data = .fields vs' → vs'[2]? = some .none → (∀ p ∈ new, p.1 ≠ e) → e ≠ Lc → TI.Frs [env] [(Lc, { oL with slots := sl })] → Fr g L' h' m → News g L' h' ((e, ob') :: (new ++ [(Lc, { oL with slots := sl })])) →
      wpAny (model prog w) (A.mark (some (.ref e))) (execs final env')
        (fun g s₂ => match g with | .next => wpAny (model prog w) A (passOn "try.finally" (.ref e) env') Q E s₂ | g => wpAny (model prog w) A (setFlight (.ref e) none) (fun _ s₃ => Q g s₃) E s₂) (notedBy (model prog w) (A.mark (some (.ref e))) env' (cameBackBy (model prog w) A env' E)) { s with heap := h' }) :
    wpAny (model prog w) A (noteFrame (.ref e) env') (fun _ s₂ => FinallyRaised prog w A E env' final Q (.ref e) s₂) E₂ s := by
  obtain ⟨ob, t, he, hc, hd⟩ := hx.there
  have heh : ∀ b o, h.get? b = some o → b ≠ e := fun b o hb q => by rw [q, hx.new] at hb; cases hb
  have heg : g.get? e = none := by
    cases q : g.get? e with
    | none => rfl
    | some o => exact absurd rfl (heh e o (F.keep _ _ q))
  refine noteCore hfr hf' hk' Fs (F.keeps hx.keeps) (N.grown hx.keeps) hne he heg (fun p hp => heh _ _ (N p (List.mem_append_left _ hp)).1) hd rfl ?_
  intro h' sl T ob' oT ts hTe hTL hTn hgT he' hc' hd' hT hdT h3 F' N' Fs'
  refine ⟨ref_ne_byPass _, ?_⟩
  have f1 : (#[t, Value.none, Value.none, Value.none, Value.bool false, Value.none].setIfInBounds 1 (Value.ref T))[1]? = some (.ref T) := rfl
  unfold noteFrame
  simp only [hf']
  refine wpAny_bind (wpAny_field he' hd' f1 ?_)
  rw [if_pos (show (Value.ref T != Value.none) = true from by simp)]
  refine wpAny_bind (wpAny_field hT hdT h3 ?_)
  rw [if_pos (by simp)]
  refine wpAny_pure ?_
  unfold setFlight
  refine wpAny_bind (wpAny_field he' hd' f1 ?_)
  rw [if_pos (show (Value.ref T != Value.none) = true from by simp)]
  refine wpAny_setField hT hdT (Array.getElem?_eq_some_iff.mp h3).1 ?_
  have hs := Heap.SameBut.update h' T (Obj.mapFields (·.setIfInBounds 3 ((none : Option Addr).elim Value.none fun f => rawInt f)))
  have eN : ∀ p ∈ new ++ [(Lc, ({ oL with slots := sl } : Obj))], p.1 ≠ e := fun p hp q => by
    rcases List.mem_append.mp hp with hp | hp
    · exact heh _ _ (N p (List.mem_append_left _ hp)).1 q
    · rw [List.mem_singleton.mp hp] at q
      exact heh _ _ (N (Lc, oL) (List.mem_append_right _ (.head _))).1 q
  have eL : e ≠ L' := fun q => by
    obtain ⟨o, _, _, ho, _⟩ := F.ns
    exact heh _ _ ho q.symm
  refine k _ sl ob' _ (hc'.trans hc) hd' rfl (fun p hp => eN p (List.mem_append_left _ hp)) (fun q => eN (Lc, _) (List.mem_append_right _ (.head _)) q.symm) Fs' (F'.change hs hTL hgT) (fun p hp => ?_)
  rcases List.mem_cons.mp hp with rfl | hp
  · exact ⟨hs.extBut _ _ (Ne.symm hTe) he', eL, heg⟩
  · exact ⟨hs.extBut _ _ (hTn p hp) (N' p hp).1, (N' p hp).2⟩
end
section
variable {prog : Program} {w : World} {A : Around} {E : Value → Shared → Prop} {s : Shared}
theorem plain_unchain : plainId "proto.unchain" = true := by decide +kernel
theorem entry_unchain : entryFor table "proto.unchain" = some Builtin.«proto.unchain» := entryFor_of_fast (by kernel_rfl)
/-- a new exception made while another is held -/
structure NewC (h h' : Heap) (e : Addr) (cls : String) (e1 : Addr) : Prop where
  keeps : ∀ b o, h.get? b = some o → h'.get? b = some o
  new : h.get? e = none
  there : ∃ ob t, h'.get? e = some ob ∧ ob.cls = .type cls ∧ ob.data = .fields #[t, .none, .ref e1, .none, .bool false, .none]
theorem raiseNewH {α : Type} {Q : α → Shared → Prop} {e e1 : Addr} {o ob : Obj} {t : Value} {vs : Array Value} (hh : A.handled = some (.ref e1)) (he1 : s.heap.get? e1 = some o) (hd1 : o.data = .fields vs) (h2 : vs[2]? = some .none) (hne : e1 ≠ e)
    (he : s.heap.get? e = some ob) (hd : ob.data = .fields #[t, .none, .none, .none, .bool false, .none])
    (h : E (.ref e) { s with heap := s.heap.update e (Obj.mapFields (·.setIfInBounds 2 (.ref e1))) }) : wpAny (model prog w) A (raiseNew (.ref e) : Sem α) Q E s := by
  unfold raiseNew
  refine wpAny_bind (wpAny_handled ?_)
  rw [hh]
  have hb : (Value.ref e1 != Value.ref e) = true := by
    simp only [bne_iff_ne, ne_eq, Value.ref.injEq]; exact hne
  show wpAny _ _ (if (Value.ref e1 != Value.ref e) = true then (holding [Value.ref e] (runValue (Code.builtin "proto.unchain" { pos := [Value.ref e, Value.ref e1, Value.ref e1, Value.bool false] })) >>= fun _ => updateField e 2 (Value.ref e1) >>= fun _ => throw (Value.ref e)) else throw (Value.ref e)) Q E s
  rw [if_pos hb]
  refine wpAny_bind (wpAny_holding (wpAny_runValue (codeAny_builtin entry_unchain ?_)))
  rw [Around.under_plainId plain_unchain _]
  show wpAny _ _ (field (.ref e1) 2 >>= _) _ _ _
  refine wpAny_bind (wpAny_field he1 hd1 h2 ?_)
  rw [if_pos (by decide)]
  refine wpAny_pure ?_
  refine wpAny_bind ?_
  show wpAny _ _ (setField (.ref e) 2 (.ref e1)) _ _ _
  exact wpAny_setField (i := 2) he hd (by simp) (wpAny_throw h)
theorem raiseWordsH {α : Type} {cls msg : String} {Q : α → Shared → Prop} {e1 : Addr} {o : Obj} {vs : Array Value} (hp : PlainExc cls) (hh : A.handled = some (.ref e1)) (he1 : s.heap.get? e1 = some o) (hd1 : o.data = .fields vs) (h2 : vs[2]? = some .none)
    (h : ∀ h' tk e, NewC s.heap h' e cls e1 → E (.ref e) { s with heap := h', toks := tk }) :
    wpAny (model prog w) A (raiseErrorWords cls msg : Sem α) Q E s := by
  unfold raiseErrorWords
  refine wpAny_bind (wpAny_mkText (wpAny_bind ?_))
  unfold newExc newTuple
  refine wpAny_bind (wpAny_newObj_type ?_)
  refine wpAny_bind (m := firstArgMember _ _) (wpAny_of_eq (a := Value.none) (by simp only [firstArgMember, hp.first]; rfl) ?_)
  rw [hp.own]
  refine wpAny_newObj_type ?_
  have k1 := Heap.get?_push_of_some (h := s.heap) { cls := Value.type "tuple", data := Data.seq [Value.str (Str.ofString msg) s.toks].toArray } he1
  refine raiseNewH (vs := vs) hh (Heap.get?_push_of_some _ k1) hd1 h2 (Nat.ne_of_lt (Heap.lt_size k1)) (Heap.get?_push_size _ rfl) rfl ?_
  refine h _ _ _ ⟨fun b o' hb => ?_, Heap.get?_none_of_le (by simp), _, _, Heap.get?_update_self _ (Heap.get?_push_size _ rfl) rfl, rfl, rfl⟩
  have kb := Heap.get?_push_of_some (h := s.heap) { cls := Value.type "tuple", data := Data.seq [Value.str (Str.ofString msg) s.toks].toArray } hb
  exact (Heap.get?_update_other _ _ (Nat.ne_of_gt (Heap.lt_size kb))).trans (Heap.get?_push_of_some _ kb)
theorem getItem_outH {l : Addr} {items : Array Value} {k : Int} {t : Tok} {Q : Value → Shared → Prop} {e1 : Addr} {o1 : Obj} {vs : Array Value} (hA : A.handled = some (.ref e1)) (he1 : s.heap.get? e1 = some o1) (hd1 : o1.data = .fields vs) (h2 : vs[2]? = some .none) (hl : s.heap.IsList l items)
    (hout : (items.size : Int) ≤ k) (hlo : -(2 ^ 63) ≤ k) (hhi : k < 2 ^ 63)
    (hE : ∀ h' tk e, NewC s.heap h' e "IndexError" e1 → E (.ref e) { s with heap := h', toks := tk }) :
    wpAny (model prog w) A (getItem (.ref l) (.int k t)) Q E s := by
  obtain ⟨o, ho, hc, ne, hd⟩ := id hl
  unfold getItem
  try with_reducible refine wpAny_holding ?_
  first | refine wpAny_bind (wpAny_pure ?_) | skip
  refine wpAny_bind (wpAny_sequenceKey hl.typeIs (by decide) ?_)
  refine wpAny_bind (wpAny_callSpecial?_slot (name := Str.ofString "__getitem__") hl.typeIs slot_list_getitem
    (wpAny_call_entry slot_list_getitem hl.typeIs entry_list_getitem ?_ (args_list_getitem _ _)))
  show wpAny _ _ (Builtin.List.listSubscript? (.int k t) >>= _) _ _ s
  refine wpAny_bind (wpAny_listSubscript_int (fitsIndex_both hlo hhi) ?_)
  clear hlo hhi
  cases k with
  | ofNat j =>
    have hx : items[j]? = none := Array.getElem?_eq_none (by have : (items.size : Int) ≤ (j : Int) := hout; omega)
    show wpAny _ _ ((seqItemAt l j >>= fun r => pure (r.map (j, ·))) >>= _) _ _ s
    refine wpAny_bind (wpAny_bind (wpAny_seqItemAt ho hd (wpAny_pure ?_)))
    rw [hx]
    have hA' : A.in1.handled = some (.ref e1) := hA
    first
      | exact wpAny_bind (wpAny_rule (raiseWordsH plainExc_IndexError hA' he1 hd1 h2 hE))
      | exact wpAny_bind (wpAny_rule (wpAny_bind (raiseWordsH plainExc_IndexError hA' he1 hd1 h2 hE)))
      | exact wpAny_bind (wpAny_bind (wpAny_rule (raiseWordsH plainExc_IndexError hA' he1 hd1 h2 hE)))
      | exact wpAny_rule (raiseWordsH plainExc_IndexError hA' he1 hd1 h2 hE)
      | (trace_state; fail "x")
  | negSucc j => exact absurd hout (by have := Int.negSucc_lt_zero j; omega)
end
section
variable {prog : Program} {w : World} {A : Around} {E : Value → Shared → Prop} {s : Shared} {g : Heap} {L' Lc e e1 : Addr} {m : Str → Option Value} {new : List (Addr × Obj)} {oL : Obj} {env env' : Env}
/-- an exception leaves a finally in which it was made -/
theorem cameR {h : Heap} {X : String} {x : Option Value} (hfr : A.frames = some [env', env]) (hf' : env'.frame = some L') (hk' : env'.scope.kind ≠ .module) (Fs : TI.Frs [env] [(Lc, oL)])
    (hx : NewC h s.heap e X e1) (F : Fr g L' h m) (N : News g L' h (new ++ [(Lc, oL)])) (hne : ∀ p ∈ new, p.1 ≠ Lc)
    (k : ∀ h' sl, TI.Frs [env] [(Lc, { oL with slots := sl })] → TT.HeldN g L' h' m e X (new ++ [(Lc, { oL with slots := sl })]) → E (.ref e) { s with heap := h' }) :
    wpAny (model prog w) (A.mark x) (noteFrame (.ref e) env') (fun _ s'' => cameBackBy (model prog w) A env' E (.ref e) s'') (cameBackBy (model prog w) A env' E) s := by
  obtain ⟨ob, t, he, hc, hd⟩ := hx.there
  have heh : ∀ b o, h.get? b = some o → b ≠ e := fun b o hb q => by rw [q, hx.new] at hb; cases hb
  have heg : g.get? e = none := by
    cases q : g.get? e with
    | none => rfl
    | some o => exact absurd rfl (heh e o (F.keep _ _ q))
  refine noteCore (A := A.mark x) hfr hf' hk' Fs (F.keeps hx.keeps) (N.grown hx.keeps) hne he heg (fun p hp => heh _ _ (N p (List.mem_append_left _ hp)).1) hd rfl ?_
  intro h' sl T ob' oT ts hTe hTL hTn hgT he' hc' hd' hT hdT h3 F' N' Fs'
  have f1 : (#[t, Value.none, Value.ref e1, Value.none, Value.bool false, Value.none].setIfInBounds 1 (Value.ref T))[1]? = some (.ref T) := rfl
  unfold cameBackBy
  refine wpAny_bind (wpAny_field he' hd' f1 ?_)
  rw [if_neg (show ¬ ((Value.ref T == Value.none) = true) from by simp)]
  unfold setFlight
  refine wpAny_bind (wpAny_field he' hd' f1 ?_)
  rw [if_pos (show (Value.ref T != Value.none) = true from by simp)]
  refine wpAny_setField hT hdT (Array.getElem?_eq_some_iff.mp h3).1 ?_
  rw [hf']
  have hs := Heap.SameBut.update h' T (Obj.mapFields (·.setIfInBounds 3 ((some L').elim Value.none fun f => rawInt f)))
  have hdT' := Obj.data_mapFields hdT (·.setIfInBounds 3 ((some L').elim Value.none fun f => rawInt f))
  have hT' := Heap.get?_update_self (Obj.mapFields (·.setIfInBounds 3 ((some L').elim Value.none fun f => rawInt f))) hT (Obj.isFreed_of_fields hdT')
  have he'' := hs.extBut _ _ (Ne.symm hTe) he'
  refine k _ sl Fs' ⟨⟨F'.change hs hTL hgT, ⟨ob', _, T, _, _, he'', hc'.trans hc, hd', f1, hT', hdT', by rw [Array.getElem?_setIfInBounds_self_of_lt (Array.getElem?_eq_some_iff.mp h3).1]; rfl, hTL, hTe, hgT⟩, heg⟩, fun p hp => ⟨hs.extBut _ _ (hTn p hp) (N' p hp).1, (N' p hp).2⟩, ?_⟩
  intro ob2 ws tb g1 g2 g3 p hp
  rw [he''] at g1
  obtain rfl := Option.some.inj g1
  rw [hd'] at g2
  injection g2 with g2
  subst g2
  rw [f1] at g3
  injection g3 with g3
  injection g3 with g3
  subst g3
  exact hTn p hp
end
end Mine
namespace Mine
section
variable {prog : Program} {w : World} {A : Around} {E : Value → Shared → Prop} {s : Shared} {h₀ : Heap} {L : Addr} {news : List (Addr × Obj)}
theorem itemOutH {value slice : Expr} {l : Addr} {items : Array Value} {n : Nat} {k : Int} {u : Tok} {Q : Value → Shared → Prop} {e1 : Addr} {o1 : Obj} {vs : Array Value} (hA : A.handled = some (.ref e1)) (N : News h₀ L s.heap news) (hm : (e1, o1) ∈ news) (hd1 : o1.data = .fields vs) (h2 : vs[2]? = some .none) (hl : (l, PySem.W.listOf items n) ∈ news)
    (hout : (items.size : Int) ≤ k) (hlo : -(2 ^ 63) ≤ k) (hhi : k < 2 ^ 63)
    (hE : ∀ h' tk e, NewC s.heap h' e "IndexError" e1 → E (.ref e) { s with heap := h', toks := tk })
    (hs : subscripted slice false (.ref l) (.int k u) = operate [.ref l, .int k u] (getItem (.ref l) (.int k u)) := by with_unfolding_all rfl) :
    wpAny (model prog w) A (subscriptTail value slice (.ref l) (.int k u)) Q E s :=
  have hl' : s.heap.IsList l items := kso_isList N hl rfl
  tail_any hl'.typeIs slot_list_getitem.lookup (getItem_outH hA (N _ hm).1 hd1 h2 hl' hout hlo hhi hE) hs
end
-- R17
section
variable {prog : Program} {w : World} {A : Around} {h₀ : Heap} {L : Addr} {m : Str → Option Value} {env : Env} {elt : Expr} {x : Str} {scope : Scope} {cl : List (Str × Addr)} {s : Shared} {S : List (Addr × Obj) → Prop} {P : Nat → Value → Prop} {Fin : List Value → List (Addr × Obj) → Prop} {news : List (Addr × Obj)}
/-- all turns of a comprehension whose element leaves the ledger as it is -/
theorem compRest_all (R : Nat → Value → Prop) {n : Nat}
    (turn : ∀ i v I oI C oC D m₂ h tk (E' : Value → Shared → Prop) ys, i < n → P i v → LCg.NsObj oC m₂ → m₂ x = some v → Fr h₀ L h m → News h₀ L h ((I, oI) :: (C, oC) :: (D, LCg.lst ys) :: news) → LCg.Off3 I C D news → ((@Ne Nat I C) ∧ (@Ne Nat I D) ∧ (@Ne Nat C D)) →
      wpAny (model prog w) A (eval elt (compEnvC scope cl C env)) (CellPost h₀ L m { s with heap := h, toks := tk } ((I, oI) :: (C, oC) :: (D, LCg.lst ys) :: news) (R i)) E' { s with heap := h, toks := tk })
    (hS : S news) (fin : ∀ ys, YsAre R n ys → Fin ys news) : LCg.CompRest prog w A h₀ L m env elt x scope cl s S P Fin n 0 [] news := by
  have key : ∀ (j i : Nat) (ys : List Value), i + j = n → YsAre R i ys → LCg.CompRest prog w A h₀ L m env elt x scope cl s S P Fin j i ys news := by
    intro j
    induction j with
    | zero =>
      intro i ys hi hy
      obtain rfl : i = n := by omega
      exact LCg.CompRest.zero (fin ys hy)
    | succ j ih =>
      intro i ys hi hy
      refine LCg.CompRest.succ ?_
      intro v I oI C oC D m₂ h tk E' hv hC hx F N off ne
      refine wpAny_mono (turn i v I oI C oC D m₂ h tk E' ys (by omega) hv hC hx F N off ne) (fun y s₂ hq => ?_) fun _ _ e => e
      obtain ⟨h', tk', e, F', N', hy'⟩ := hq
      exact ⟨h', tk', news, e, F', N', off, hS, ih (i + 1) _ (by omega) (.snoc hy hy')⟩
  exact key n 0 [] (by omega) .nil
end
theorem ints_at {vs : List Value} {ns : List Int} (h : IntsAre vs ns) {i : Nat} {v : Value} (hv : vs.toArray[i]? = some v) (hb : ∀ k ∈ ns, 0 ≤ k ∧ k < 4) : ∃ (p : Nat) (t : Tok), p < 4 ∧ ns[i]? = some ((p : Nat) : Int) ∧ v = .int ((p : Nat) : Int) t := by
  obtain ⟨k, t, e, hk⟩ := IntsAre.at h i v (by simpa using hv)
  obtain ⟨h0, h1⟩ := hb k (List.mem_of_getElem? hk)
  obtain ⟨p, rfl⟩ := Int.eq_ofNat_of_zero_le h0
  exact ⟨p, t, by omega, hk, e⟩
theorem ta_of {R : Nat → Value → Prop} {xs : List Str} (hR : ∀ i y, R i y → ∃ t, (xs[i]?).isSome = true ∧ y = .str (xs.getD i default) t) : ∀ {n : Nat} {ys : List Value}, YsAre R n ys → n ≤ xs.length → TA ys (xs.take n) := by
  intro n ys h
  induction h with
  | nil => intro _; exact .nil
  | @snoc i ys y _ hy ih =>
    intro hn
    obtain ⟨t, _, rfl⟩ := hR _ _ hy
    have e : xs.take (i + 1) = xs.take i ++ [xs.getD i default] := by
      rw [List.take_add_one, List.getD_eq_getElem?_getD, List.getElem?_eq_getElem (by omega)]
      rfl
    rw [e]
    exact (ih (by omega)).snoc
theorem dig (p : Nat) (h : p < 4) : (Str.ofString "0123").cps[(((p : Nat) : Int)).toNat]? = some (48 + p) := by
  rcases p with _ | _ | _ | _ | p
  · rfl
  · rfl
  · rfl
  · rfl
  · omega
/-- the places at which two rows part -/
def Gp (f g : Nat → Nat) (l : List Int) (k : Int) : List Int := if f k.toNat = g k.toNat then l else l ++ [k]
def plc (f g : Nat → Nat) : List Int := (rangeKs 0 4).foldl (Gp f g) []
theorem Gp_grows (f g : Nat → Nat) : KPfGrows (Gp f g) := by
  intro l k
  unfold Gp
  split
  · omega
  · simp
theorem plc_bd (f g : Nat → Nat) : ∀ k ∈ plc f g, 0 ≤ k ∧ k < 4 := by
  unfold plc rangeKs Gp
  simp only [List.range, List.range.loop, List.map, List.foldl]
  intro k hk
  repeat' split at hk
  all_goals (simp at hk; try omega)
theorem plc_df1 (f g : Nat → Nat) : (plc f g).map (fun k => mk k.toNat (f k.toNat)) = df f g 4 := by
  unfold plc rangeKs Gp df df df df df
  simp only [List.range, List.range.loop, List.map, List.foldl]
  by_cases h0 : f 0 = g 0 <;> by_cases h1 : f 1 = g 1 <;> by_cases h2 : f 2 = g 2 <;> by_cases h3 : f 3 = g 3 <;> simp [h0, h1, h2, h3]
theorem plc_df2 (f g : Nat → Nat) : (plc f g).map (fun k => mk k.toNat (g k.toNat)) = df g f 4 := by
  unfold plc rangeKs Gp df df df df df
  simp only [List.range, List.range.loop, List.map, List.foldl]
  by_cases h0 : f 0 = g 0 <;> by_cases h1 : f 1 = g 1 <;> by_cases h2 : f 2 = g 2 <;> by_cases h3 : f 3 = g 3 <;> simp [h0, h1, h2, h3, eq_comm (a := g 0), eq_comm (a := g 1), eq_comm (a := g 2), eq_comm (a := g 3)]
-- N1
/-- what is wanted behind a statement gets a name: the terms of the steps within it stay short -/
theorem absQ {α : Type} {M : Model} {A : Around} {t : Sem α} {Q : α → Shared → Prop} {E : Value → Shared → Prop} {s : Shared} (h : ∀ Q₁ : α → Shared → Prop, (∀ v s, Q v s → Q₁ v s) → wpAny M A t Q₁ E s) : wpAny M A t Q E s := h Q fun _ _ x => x
theorem absQ_end {α : Type} {Q Q₁ : α → Shared → Prop} {v : α} {s : Shared} (hq : ∀ v s, Q v s → Q₁ v s) (h : Q v s) : Q₁ v s := hq v s h
/-- values that are V 0, .., V (n - 1), each with a token of its own -/
def VV (n : Nat) (V : Nat → Tok → Value) (l : List Value) : Prop := l.length = n ∧ ∀ i, i < n → ∃ t, l[i]? = some (V i t)
/-- a made list of them -/
def VO (n : Nat) (V : Nat → Tok → Value) (o : Obj) : Prop := ∃ l k, o = PySem.W.listOf (List.toArray l) k ∧ VV n V l
abbrev SV (n : Nat) (g : Nat → Str) (l : List Value) : Prop := VV n (fun i t => .str (g i) t) l
abbrev SO (n : Nat) (g : Nat → Str) (o : Obj) : Prop := VO n (fun i t => .str (g i) t) o
theorem SO.congr {n : Nat} {g g' : Nat → Str} {o : Obj} (h : SO n g o) (e : ∀ i, i < n → g i = g' i) : SO n g' o := let ⟨l, k, ho, v⟩ := h; ⟨l, k, ho, v.1, fun i hi => let ⟨t, q⟩ := v.2 i hi; ⟨t, q.trans (congrArg (fun x => some (Value.str x t)) (e i hi))⟩⟩
theorem YsAre.at {P : Nat → Value → Prop} {n : Nat} {ys : List Value} (h : YsAre P n ys) : ∀ i, i < n → ∃ y, ys[i]? = some y ∧ P i y := by
  induction h with
  | nil => intro i hi; exact absurd hi (Nat.not_lt_zero _)
  | @snoc k ys y hy hp ih =>
    intro i hi
    by_cases e : i < k
    · obtain ⟨z, h1, h2⟩ := ih i e
      exact ⟨z, by rw [List.getElem?_append_left (by rw [hy.length]; exact e)]; exact h1, h2⟩
    · obtain rfl : i = k := Nat.le_antisymm (Nat.le_of_lt_succ hi) (Nat.not_lt.mp e)
      refine ⟨y, ?_, hp⟩
      rw [List.getElem?_append_right (Nat.le_of_eq hy.length), hy.length, Nat.sub_self]
      rfl
theorem YsAre.vo {n : Nat} {V : Nat → Tok → Value} {ys : List Value} (h : YsAre (fun i y => ∃ t, y = V i t) n ys) : VO n V (LCg.lst ys) := ⟨ys, ys.length, rfl, h.length, fun i hi => let ⟨_, h1, t, e⟩ := h.at i hi; ⟨t, e ▸ h1⟩⟩
theorem YsAre.so {n : Nat} {g : Nat → Str} {ys : List Value} (h : YsAre (fun i y => ∃ t, y = .str (g i) t) n ys) : SO n g (LCg.lst ys) := h.vo
theorem VV.nil {V : Nat → Tok → Value} {l : List Value} (h : VV 0 V l) : l = [] := List.eq_nil_of_length_eq_zero h.1
theorem VV.cons {n : Nat} {V : Nat → Tok → Value} {l : List Value} (h : VV (n + 1) V l) : ∃ t r, l = V 0 t :: r ∧ VV n (fun i => V (i + 1)) r := by
  cases l with
  | nil => exact absurd h.1 (Nat.succ_ne_zero n).symm
  | cons y r =>
    obtain ⟨t, e⟩ := h.2 0 (Nat.succ_pos n)
    exact ⟨t, r, congrArg (· :: r) (Option.some.inj e), Nat.succ.inj h.1, fun i hi => h.2 (i + 1) (Nat.succ_lt_succ hi)⟩
theorem VV.three {V : Nat → Tok → Value} {l : List Value} (h : VV 3 V l) : ∃ t0 t1 t2, l = [V 0 t0, V 1 t1, V 2 t2] := by
  obtain ⟨t0, _, rfl, h1⟩ := h.cons
  obtain ⟨t1, _, rfl, h2⟩ := h1.cons
  obtain ⟨t2, r, rfl, h3⟩ := h2.cons
  exact ⟨t0, t1, t2, by rw [h3.nil]⟩
theorem VV.four {V : Nat → Tok → Value} {l : List Value} (h : VV 4 V l) : ∃ t0 t1 t2 t3, l = [V 0 t0, V 1 t1, V 2 t2, V 3 t3] := by
  obtain ⟨t0, _, rfl, h1⟩ := h.cons
  obtain ⟨t1, t2, t3, rfl⟩ := h1.three
  exact ⟨t0, t1, t2, t3, rfl⟩
theorem VO.three {V : Nat → Tok → Value} {o : Obj} (h : VO 3 V o) : ∃ t0 t1 t2 k, o = PySem.W.listOf #[V 0 t0, V 1 t1, V 2 t2] k := by
  obtain ⟨l, k, rfl, v⟩ := h
  obtain ⟨t0, t1, t2, rfl⟩ := v.three
  exact ⟨t0, t1, t2, k, rfl⟩
theorem VO.four {V : Nat → Tok → Value} {o : Obj} (h : VO 4 V o) : ∃ t0 t1 t2 t3 k, o = PySem.W.listOf #[V 0 t0, V 1 t1, V 2 t2, V 3 t3] k := by
  obtain ⟨l, k, rfl, v⟩ := h
  obtain ⟨t0, t1, t2, t3, rfl⟩ := v.four
  exact ⟨t0, t1, t2, t3, k, rfl⟩
/-- the three places other than k -/
def dk (k i : Nat) : Nat := if i < k then i else i + 1
section
variable {prog : Program} {w : World} {A : Around} {E : Value → Shared → Prop} {s : Shared} {h₀ : Heap} {L : Addr} {m : Str → Option Value} {news : List (Addr × Obj)} {Q : Value → Shared → Prop} {l a b : Addr} {o oa ob : Obj} {n : Nat} {g : Nat → Str}
theorem so_item {value slice : Expr} {k : Nat} {u : Tok} (N : News h₀ L s.heap news) (hm : (l, o) ∈ news) (hS : SO n g o) (hk : k < n) (hn : n ≤ 100) (h : ∀ t, Q (.str (g k) t) s)
    (hs : subscripted slice false (.ref l) (.int ((k : Nat) : Int) u) = operate [.ref l, .int ((k : Nat) : Int) u] (getItem (.ref l) (.int ((k : Nat) : Int) u))) :
    wpAny (model prog w) A (subscriptTail value slice (.ref l) (.int ((k : Nat) : Int) u)) Q E s := by
  obtain ⟨ls, c, rfl, v⟩ := hS
  obtain ⟨t, e⟩ := v.2 k hk
  exact tail_any (kso_isList N hm rfl).typeIs slot_list_getitem.lookup (wpAny_getItem_list (kso_isList N hm rfl) (Int.natCast_nonneg _) (by omega) (x := .str (g k) t) (by simpa using e) (h t)) hs
theorem so_lo {value slice : Expr} {k : Nat} {u : Tok} (F : Fr h₀ L s.heap m) (N : News h₀ L s.heap news) (hm : (l, o) ∈ news) (hS : SO n g o) (hk : k < n) (hn : n ≤ 100)
    (h : ∀ D o' h', SO k g o' → Fr h₀ L h' m → News h₀ L h' ((D, o') :: news) → Q (.ref D) { s with heap := h' })
    (hs : subscripted slice false (.ref l) (.ref s.heap.objs.size) = operate [.ref s.heap.objs.size, .ref l] (getItem (.ref l) (.ref s.heap.objs.size))) (ht : ∀ r, letTemporaryGo value (.ref l) r = pure ()) :
    wpAny (model prog w) A (subscriptTail value slice (.ref l) (.ref s.heap.objs.size)) Q E { s with heap := s.heap.push { cls := .type "slice", data := .fields #[.none, .int ((k : Nat) : Int) u, .none] } } := by
  obtain ⟨ls, c, rfl, v⟩ := hS
  have hz : ls.toArray.size ≤ sizeLine := by rw [List.size_toArray, v.1, sizeLine_eq]; omega
  refine kms_slice_lit F N (kso_isList N hm rfl) .none (.int _ _) (zs := ls.take k) ?_ (fun D h' F' N' _ => h D _ h' ⟨_, _, rfl, ?_, ?_⟩ F' N') hs ht hz
  · simp only [kms_pick, kms_lo, kms_hi, List.drop_zero, if_neg (Int.not_lt.mpr (Int.natCast_nonneg k)), Int.toNat_natCast, v.1, Nat.sub_zero, Nat.min_eq_left (Nat.le_of_lt hk)]
  · rw [List.length_take, v.1, Nat.min_eq_left (Nat.le_of_lt hk)]
  · intro i hi
    rw [List.getElem?_take_of_lt hi]
    exact v.2 i (Nat.lt_trans hi hk)
theorem so_hi {value slice : Expr} {k : Nat} {u : Tok} (F : Fr h₀ L s.heap m) (N : News h₀ L s.heap news) (hm : (l, o) ∈ news) (hS : SO n g o) (hk : k < n) (hn : n ≤ 100)
    (h : ∀ D o' h', SO (n - (k + 1)) (fun i => g (i + (k + 1))) o' → Fr h₀ L h' m → News h₀ L h' ((D, o') :: news) → Q (.ref D) { s with heap := h' })
    (hs : subscripted slice false (.ref l) (.ref s.heap.objs.size) = operate [.ref s.heap.objs.size, .ref l] (getItem (.ref l) (.ref s.heap.objs.size))) (ht : ∀ r, letTemporaryGo value (.ref l) r = pure ()) :
    wpAny (model prog w) A (subscriptTail value slice (.ref l) (.ref s.heap.objs.size)) Q E { s with heap := s.heap.push { cls := .type "slice", data := .fields #[.int (((k : Nat) : Int) + 1) u, .none, .none] } } := by
  obtain ⟨ls, c, rfl, v⟩ := hS
  have hz : ls.toArray.size ≤ sizeLine := by rw [List.size_toArray, v.1, sizeLine_eq]; omega
  have h1 : ((k : Nat) : Int) + 1 = ((k + 1 : Nat) : Int) := rfl
  refine kms_slice_lit F N (kso_isList N hm rfl) (.int _ _) .none (zs := ls.drop (k + 1)) ?_ (fun D h' F' N' _ => h D _ h' ⟨_, _, rfl, ?_, ?_⟩ F' N') hs ht hz
  · rw [h1]
    simp only [kms_pick, kms_lo, kms_hi, if_neg (Int.not_lt.mpr (Int.natCast_nonneg (k + 1))), Int.toNat_natCast, v.1, Nat.min_eq_left hk]
    exact List.take_of_length_le (by rw [List.length_drop, v.1]; exact Nat.le_refl _)
  · rw [List.length_drop, v.1]
  · intro i hi
    rw [List.getElem?_drop, Nat.add_comm]
    exact v.2 _ (by omega)
theorem so_rest {k : Nat} (F : Fr h₀ L s.heap m) (N : News h₀ L s.heap ((b, ob) :: (a, oa) :: news)) (hk : k < 4) (hA : SO k g oa) (hB : SO (4 - (k + 1)) (fun i => g (i + (k + 1))) ob)
    (h : ∀ D o' h', SO 3 (fun i => g (dk k i)) o' → Fr h₀ L h' m → News h₀ L h' ((D, o') :: news) → (∀ p ∈ news, p.1 < D) → Q (.ref D) { s with heap := h' }) :
    wpAny (model prog w) A (binaryOp .Add (.ref a) (.ref b)) Q E s := by
  obtain ⟨la, ca, rfl, va⟩ := hA
  obtain ⟨lb, cb, rfl, vb⟩ := hB
  refine kmk_add_lit F N (kso_isList N (.tail _ (.head _)) rfl) (kso_isList N (.head _) rfl) (zs := la ++ lb) rfl (fun D h' F' N' lt => ?_) ?_
  · refine h D (PySem.W.listOf (la ++ lb).toArray 0) h' ⟨_, _, rfl, ?_, ?_⟩ F' (fun p hp => N' p ?_) fun p hp => lt p (.tail _ (.tail _ hp))
    · rw [List.length_append, va.1, vb.1]; omega
    · intro i hi
      show ∃ t, (la ++ lb)[i]? = some (.str (g (if i < k then i else i + 1)) t)
      by_cases e : i < k
      · rw [if_pos e, List.getElem?_append_left (by rw [va.1]; exact e)]
        exact va.2 i e
      · rw [if_neg e, List.getElem?_append_right (by rw [va.1]; omega), va.1]
        obtain ⟨t, ht⟩ := vb.2 (i - k) (by omega)
        exact ⟨t, ht.trans (by rw [show i + 1 = i - k + (k + 1) by omega])⟩
    · rcases List.mem_cons.mp hp with rfl | hp
      · exact .head _
      · exact .tail _ (.tail _ (.tail _ hp))
  · show la.length + lb.length ≤ _
    rw [va.1, vb.1, sizeLine_eq]; omega
theorem so_max3 {f : Nat → Nat} (hh : A.handled = none) (F : Fr h₀ L s.heap m) (N : News h₀ L s.heap news) (hm : (l, o) ∈ news) (hS : SO 3 (fun i => ch (f i)) o)
    (h : ∀ h' (t : Tok) tk, Fr h₀ L h' m → News h₀ L h' news → Q (.str (ch (mx3 (f 0) (f 1) (f 2))) t) { s with heap := h', toks := tk }) : wpAny (model prog w) A (call (.builtin "max") [.ref l]) Q E s := by
  obtain ⟨_, _, _, _, rfl⟩ := hS.three
  exact max3 hh F N hm h
theorem so_min3 {f : Nat → Nat} (hh : A.handled = none) (F : Fr h₀ L s.heap m) (N : News h₀ L s.heap news) (hm : (l, o) ∈ news) (hS : SO 3 (fun i => ch (f i)) o)
    (h : ∀ h' (t : Tok) tk, Fr h₀ L h' m → News h₀ L h' news → Q (.str (ch (mn3 (f 0) (f 1) (f 2))) t) { s with heap := h', toks := tk }) : wpAny (model prog w) A (call (.builtin "min") [.ref l]) Q E s := by
  obtain ⟨_, _, _, _, rfl⟩ := hS.three
  exact min3 hh F N hm h
theorem so_max4 {f : Nat → Nat} (hh : A.handled = none) (F : Fr h₀ L s.heap m) (N : News h₀ L s.heap news) (hm : (l, o) ∈ news) (hS : SO 4 (fun i => ch (f i)) o)
    (h : ∀ h' (t : Tok) tk, Fr h₀ L h' m → News h₀ L h' news → Q (.str (ch (mx4 (f 0) (f 1) (f 2) (f 3))) t) { s with heap := h', toks := tk }) : wpAny (model prog w) A (call (.builtin "max") [.ref l]) Q E s := by
  obtain ⟨_, _, _, _, _, rfl⟩ := hS.four
  exact max4 hh F N hm h
theorem so_min4 {f : Nat → Nat} (hh : A.handled = none) (F : Fr h₀ L s.heap m) (N : News h₀ L s.heap news) (hm : (l, o) ∈ news) (hS : SO 4 (fun i => ch (f i)) o)
    (h : ∀ h' (t : Tok) tk, Fr h₀ L h' m → News h₀ L h' news → Q (.str (ch (mn4 (f 0) (f 1) (f 2) (f 3))) t) { s with heap := h', toks := tk }) : wpAny (model prog w) A (call (.builtin "min") [.ref l]) Q E s := by
  obtain ⟨_, _, _, _, _, rfl⟩ := hS.four
  exact min4 hh F N hm h
theorem so_join {f : Nat → Nat} {t : Tok} (N : News h₀ L s.heap news) (hm : (l, o) ∈ news) (hS : SO 4 (fun i => ch (f i)) o)
    (h : ∀ t' tk, Q (.str (rowF f) t') { s with toks := tk }) : wpAny (model prog w) A (call (.builtin "str.join") [.str (Str.ofString "") t, .ref l]) Q E s := by
  obtain ⟨_, _, _, _, _, rfl⟩ := hS.four
  exact join4 N hm h
end
section
variable {prog : Program} {w : World} {A : Around} {h₀ : Heap} {L : Addr} {m : Str → Option Value} {env : Env} {elt : Expr} {x : Str} {scope : Scope} {cl : List (Str × Addr)} {s₁ : Shared} {Fin : Shared → List Value → List (Addr × Obj) → Prop} {news : List (Addr × Obj)} {ax : Addr} {o : Obj}
/-- a comprehension over a made list whose element leaves the ledger as it is: one turn for all -/
theorem so_src {n : Nat} {V : Nat → Tok → Value} (R : Nat → Value → Prop) (hh : A.handled = none) (F : Fr h₀ L s₁.heap m) (N : News h₀ L s₁.heap news) (hm : (ax, o) ∈ news) (hS : VO n V o) (hn : n ≤ 100)
    (turn : ∀ g9 i t I oI C oC D m₂ h tk (E' : Value → Shared → Prop) ys, i < n → LCg.NsObj oC m₂ → m₂ x = some (V i t) → Fr h₀ L h m → News h₀ L h ((I, oI) :: (C, oC) :: (D, LCg.lst ys) :: news) →
      wpAny (model prog w) A (eval elt (compEnvC scope cl C env)) (CellPost h₀ L m { s₁ with heap := h, toks := tk } ((I, oI) :: (C, oC) :: (D, LCg.lst ys) :: news) (R i)) E' { { s₁ with heap := g9 } with heap := h, toks := tk })
    (fin : ∀ g9 ys, YsAre R n ys → Fin { s₁ with heap := g9 } ys news) : LCg.CompSrc prog w A h₀ L m env elt x scope cl Fin (.ref ax) s₁ := by
  obtain ⟨ls, c, rfl, v⟩ := hS
  refine LCg.CompSrc.ledger hh F N hm (by rw [List.size_toArray, v.1, sizeLine_eq]; omega) fun g9 => ?_
  rw [show ls.toArray.size = n by rw [List.size_toArray]; exact v.1]
  refine compRest_all R (fun i y I oI C oC D m₂ h tk E' ys hi hv hC hx F' N' _ _ => ?_) (.inr ⟨_, hm, rfl, _, rfl⟩) fun ys hy => fin g9 ys hy
  obtain ⟨t, e⟩ := v.2 i hi
  have e' : ls.toArray[i]? = some (V i t) := by simpa using e
  rw [e'] at hv
  rw [← Option.some.inj hv] at hx
  exact turn g9 i t I oI C oC D m₂ h tk E' ys hi hC hx F' N'
/-- the same over a range -/
theorem rg_src {n : Nat} {r : Addr} {t u v : Tok} (R : Nat → Value → Prop) (hh : A.handled = none) (F : Fr h₀ L s₁.heap m) (N : News h₀ L s₁.heap news) (hr : IsRange s₁.heap r 0 ((n : Nat) : Int) 1 t u v) (hsm : Builtin.Range.small 0 ((n : Nat) : Int) 1 = true) (hz : Builtin.Range.rangeSize 0 ((n : Nat) : Int) 1 = ((n : Nat) : Int)) (hn : n ≤ 100)
    (turn : ∀ g9 i t I oI C oC D m₂ h tk (E' : Value → Shared → Prop) ys, i < n → LCg.NsObj oC m₂ → m₂ x = some (.int ((i : Nat) : Int) t) → Fr h₀ L h m → News h₀ L h ((I, oI) :: (C, oC) :: (D, LCg.lst ys) :: news) →
      wpAny (model prog w) A (eval elt (compEnvC scope cl C env)) (CellPost h₀ L m { s₁ with heap := h, toks := tk } ((I, oI) :: (C, oC) :: (D, LCg.lst ys) :: news) (R i)) E' { { s₁ with heap := g9 } with heap := h, toks := tk })
    (fin : ∀ g9 ys, YsAre R n ys → Fin { s₁ with heap := g9 } ys news) : LCg.CompSrc prog w A h₀ L m env elt x scope cl Fin (.ref r) s₁ := by
  refine LCg.CompSrc.range (n := n) hh F N hr hsm hz (by rw [sizeLine_eq]; omega) fun g9 => ?_
  refine compRest_all R (fun i y I oI C oC D m₂ h tk E' ys hi hv hC hx F' N' _ _ => ?_) trivial fun ys hy => fin g9 ys hy
  obtain ⟨t', rfl⟩ := hv
  rw [Int.zero_add] at hx
  exact turn g9 i t' I oI C oC D m₂ h tk E' ys hi hC hx F' N'
end
-- B2
section
variable {prog : Program} {w : World} {A A₀ : Around} {s : Shared} {K : Frag} {L : Addr} {h₀ base : Heap} {m mg mb : Str → Option Value} {news : List (Addr × Obj)} {p : Program} {loose : List Str} {mean : ExcName → Option Value}
theorem enterCL {env : Env} {outer : List Env} {R : Result → Shared → Prop} {name qual : Str} {params : Arguments} {body : List Stmt} {scope : Scope} {dV kV doc pm cdv ct oc : Value} {an od : Option Addr} {osl : Array (Option Value)} {f : Addr} {args : Args} {binds : List (Str × Value)}
    (B : Below A₀ base outer h₀) (F : Fr h₀ L s.heap m) (X₀ : K.In h₀) (N : News h₀ L s.heap news) (T : Top p loose mean mg mb h₀) (hA : A.frames = some (env :: outer)) (hf : env.frame = some L) (hke : env.scope.kind = .function)
    (ho : K.lookup f = some ⟨oc, od, .func (fnOf name qual params body scope dV kV doc pm an cdv ct), osl⟩) (hcd : codeIn K cdv qual = true) (hroom : A.depth < recursionLimit)
    (hbind : BindsTo s (fnOf name qual params body scope dV kV doc pm an cdv ct) args binds) (hkind : (binds.all fun y => scope.names.lookup y.1 == some .local || scope.names.lookup y.1 == some .cell) = true)
    (hnd : ((cellsFrom 0 scope.names []).map (·.1)).Nodup)
    (h : ∀ g L' h₁ tk cells, Fr h₀ L g m → Fr g L' h₁ (bindL (envOfC qual scope L' f cdv).kindOf binds fun _ => none) → News g L' h₁ (cells ++ news) →
      CellsAre (bindC (envOfC qual scope L' f cdv).kindOf binds fun _ => none) (cellsFrom (L' + 1) scope.names []) cells → Below A base (env :: outer) g → K.In g → Top p loose mean mg mb g → (∀ p ∈ news, p.1 < L') → (∀ b o, s.heap.get? b = some o → b ∉ news.map (·.1) → g.get? b = some o) →
      let e9 : Env := envOfC qual scope L' f cdv
      let A9 : Around := A.deeper e9
      let E9 : Value → Shared → Prop := fun e s' => wpAny (model prog w) A9 (leaving e9 e) (fun _ s'' => R (.error e) s'') (fun e' s'' => R (.error e') s'') s'
      wpAny (model prog w) A9 (execs body e9)
        (fun fl s' => LeaveK h₀ L m g R (match fl with | .ret v => v | _ => .none) s')
        E9 { s with heap := h₁, toks := tk })
    (hco : scope.isCoroutine = false) (hgen : scope.isGenerator = false) (hk : scope.kind = .function) : codeAny (model prog w) A (.call (.ref f) args) R s :=
  enterCH B F X₀ N T hA hf hke ho hcd hroom hbind hkind hnd h hco hgen hk
theorem enterHL {env : Env} {outer : List Env} {R : Result → Shared → Prop} {name qual : Str} {params : Arguments} {body : List Stmt} {scope : Scope} {dV kV doc pm cdv ct oc : Value} {an od : Option Addr} {osl : Array (Option Value)} {f : Addr} {args : Args} {binds : List (Str × Value)}
    (B : Below A₀ base outer h₀) (F : Fr h₀ L s.heap m) (X₀ : K.In h₀) (N : News h₀ L s.heap news) (T : Top p loose mean mg mb h₀) (hA : A.frames = some (env :: outer)) (hf : env.frame = some L) (hke : env.scope.kind = .function)
    (ho : K.lookup f = some ⟨oc, od, .func (fnOf name qual params body scope dV kV doc pm an cdv ct), osl⟩) (hcd : codeIn K cdv qual = true) (hroom : A.depth < recursionLimit)
    (hbind : BindsTo s (fnOf name qual params body scope dV kV doc pm an cdv ct) args binds) (hloc : ∀ y ∈ binds, scope.names.lookup y.1 = some .local)
    (h : ∀ g L' h₁, Fr h₀ L g m → Fr g L' h₁ (fun y => binds.reverse.lookup y) → News g L' h₁ news → Below A base (env :: outer) g → K.In g → Top p loose mean mg mb g → (∀ b o, s.heap.get? b = some o → b ∉ news.map (·.1) → g.get? b = some o) →
      let e9 : Env := envOf qual scope L' f cdv
      let A9 : Around := A.deeper e9
      let E9 : Value → Shared → Prop := fun e s' => wpAny (model prog w) A9 (leaving e9 e) (fun _ s'' => R (.error e) s'') (fun e' s'' => R (.error e') s'') s'
      wpAny (model prog w) A9 (execs body e9)
        (fun fl s' => LeaveK h₀ L m g R (match fl with | .ret v => v | _ => .none) s')
        E9 { s with heap := h₁, toks := s.toks + binds.length })
    (hco : scope.isCoroutine = false) (hgen : scope.isGenerator = false) (hk : scope.kind = .function)
    (hcell : ∀ x ∈ scope.names, x.2 ≠ .cell) : codeAny (model prog w) A (.call (.ref f) args) R s :=
  enterH B F X₀ N T hA hf hke ho hcd hroom hbind hloc h hco hgen hk hcell
end
-- N2
/-- what a turn of a for loop leaves: the same places on the ledger, and an invariant -/
def LPost (h₀ : Heap) (L : Addr) (s₁ : Shared) (I : Addr) (oI : Obj) (as : List Addr) (Inv : (Str → Option Value) → List (Addr × Obj) → Prop) (f : Flow) (s' : Shared) : Prop :=
  f = .next ∧ ∃ h' tk' m' nw, s' = { s₁ with heap := h', toks := tk' } ∧ Fr h₀ L h' m' ∧ News h₀ L h' ((I, oI) :: nw) ∧ nw.map Prod.fst = as ∧ Inv m' nw
theorem LPost.intro {h₀ : Heap} {L : Addr} {s₁ : Shared} {I : Addr} {oI : Obj} {as : List Addr} {Inv : (Str → Option Value) → List (Addr × Obj) → Prop} {h' : Heap} {tk' : Nat} {m' : Str → Option Value} {big : List (Addr × Obj)}
    (F : Fr h₀ L h' m') (N : News h₀ L h' big) (nw : List (Addr × Obj)) (sub : ∀ p ∈ (I, oI) :: nw, p ∈ big) (e : nw.map Prod.fst = as) (i : Inv m' nw) : LPost h₀ L s₁ I oI as Inv .next { s₁ with heap := h', toks := tk' } :=
  ⟨rfl, h', tk', m', nw, rfl, F, cb_drop N sub, e, i⟩
section
variable {prog : Program} {w : World} {A : Around} {E : Value → Shared → Prop} {s : Shared} {env : Env} {h₀ : Heap} {body : List Stmt} {Q : Flow → Shared → Prop}
theorem iter_inv {x : Str} {px : Pos} {r : Addr} {t u v : Tok} {m₀ : Str → Option Value} {news : List (Addr × Obj)} (Inv : Nat → (Str → Option Value) → List (Addr × Obj) → Prop)
    (hh : A.handled = none) (hr : IsRange s.heap r 0 4 1 t u v) (F : Fr h₀ env.locals s.heap m₀) (N : News h₀ env.locals s.heap news) (hI : Inv 0 m₀ news)
    (turn : ∀ I i t oI m' nw h tk, (∀ a ∈ news.map Prod.fst, a < I) → nw.map Prod.fst = news.map Prod.fst → i < 4 → Inv i m' nw → Fr h₀ env.locals h m' → News h₀ env.locals h ((I, oI) :: nw) →
      wpAny (model prog w) A (assign (.Name x px) env (.int ((i : Nat) : Int) t)) (fun _ s₃ => wpAny (model prog w) A (execs body env) (LPost h₀ env.locals { s with heap := h, toks := tk } I oI (news.map Prod.fst) (Inv (i + 1))) E s₃) E { s with heap := h, toks := tk })
    (fin : ∀ m' nw h tk, nw.map Prod.fst = news.map Prod.fst → Inv 4 m' nw → Fr h₀ env.locals h m' → News h₀ env.locals h nw → Q .next { s with heap := h, toks := tk }) :
    wpAny (model prog w) A (pyIter (.ref r)) (fun it s₂ => TurnsAt prog w A h₀ env (.Name x px) body Q E it s₂) E s := by
  refine iter_rangeTurns (n := 4) hh hr (by decide) (by decide) F N rfl fun I hlt => ?_
  have hlt' : ∀ a ∈ news.map Prod.fst, a < I := fun a ha => by
    obtain ⟨p, hp, rfl⟩ := List.mem_map.mp ha
    exact hlt p hp
  have key : ∀ k i, i + k = 4 → ∀ m' nw, nw.map Prod.fst = news.map Prod.fst → Inv i m' nw →
      ItemsRest prog w A E h₀ env (.Name x px) body Q s [(I, "range_iterator")] [] ((List.range' i k).map fun (i : Nat) => Itm.tok fun t => Value.int (0 + ((i : Nat) : Int)) t) m' nw := by
    intro k
    induction k with
    | zero =>
      intro i hi m' nw e hK h tk F' N'
      obtain rfl : i = 4 := hi
      exact fin m' nw h tk e hK F' N'
    | succ k ih =>
      intro i hi m' nw e hK
      rw [List.range'_succ, List.map_cons]
      intro v h tk hv F' oI hoI N'
      obtain ⟨t', rfl⟩ := hv
      rw [Int.zero_add]
      refine wpAny_mono (turn I i t' oI m' nw h tk hlt' e (by omega) hK F' N') (fun _ s₃ h₃ => wpAny_mono h₃ (fun f s₄ h₄ => ?_) fun _ _ e => e) fun _ _ e => e
      obtain ⟨rfl, h', tk', m'', nw', rfl, F'', N'', e', hK''⟩ := h₄
      refine ⟨h', tk', m'', nw', rfl, F'', N'', fun p hp q hq => ?_, trivial, ih (i + 1) (by omega) m'' nw' e' hK''⟩
      rw [List.mem_singleton.mp hq]
      exact Nat.ne_of_lt (hlt' _ (e' ▸ List.mem_map_of_mem hp))
  exact key 4 0 rfl m₀ news rfl hI
end
section
variable {prog : Program} {w : World} {A : Around} {E : Value → Shared → Prop} {s : Shared} {h₀ : Heap} {L : Addr} {m : Str → Option Value} {news : List (Addr × Obj)}
theorem join_v {st : Stmt} {env : Env} {Q : Flow → Shared → Prop} {its : Array Value} {n : Nat} {g : Obj → List (Addr × Obj)} {S : Addr} (v : Nat) (_F : Fr h₀ L s.heap m) (_N : News h₀ L s.heap news) (_hS : m (Str.ofString "signs") = some (.ref S)) (_U : UpdF S (PySem.W.listOf its n) news g)
    (h1 : wpAny (model prog w) A (exec st env) (JPost h₀ L m s g its n v) E s)
    (h2 : ∀ t h' tk', Fr h₀ L h' m → News h₀ L h' (g (PySem.W.listOf (its.push (.str (ch v) t)) (n + 1))) → Q .next { s with heap := h', toks := tk' }) : wpAny (model prog w) A (exec st env) Q E s := by
  refine wpAny_mono h1 (fun f s' hq => ?_) fun _ _ e => e
  obtain ⟨rfl, t, h', tk', rfl, F', N'⟩ := hq
  exact h2 t h' tk' F' N'
end
def overR (f : Nat → Nat → Nat) (k : Nat) : Nat → Nat := fun j => ov (f k j) (f 0 j) (f 1 j) (f 2 j) (f 3 j)
def calmR (f : Nat → Nat → Nat) (k : Nat) : Nat → Nat := fun j => cm (f k j) (f (dk k 0) j) (f (dk k 1) j) (f (dk k 2) j)
def onceR (f : Nat → Nat → Nat) (k : Nat) : Nat → Nat := fun j => med (f (dk k 0) j) (f (dk k 1) j) (f (dk k 2) j)
/-- a row's signs made so far -/
def SignsInv (S c1 l : Addr) (o : Obj) (g : Nat → Nat) (k : Int) (t : Tok) (i : Nat) (m : Str → Option Value) (nw : List (Addr × Obj)) : Prop :=
  ∃ its o1, nw = [(S, LCg.lst its), (c1, o1), (l, o)] ∧ YsAre (fun j y => ∃ t, y = .str (ch (g j)) t) i its ∧ (∃ v, o1.data = .cell v) ∧ Kp3 l k t S m
section
variable {prog : Program} {w : World} {A : Around} {E : Value → Shared → Prop} {s : Shared} {env : Env} {h₀ : Heap} {body : List Stmt} {Q : Flow → Shared → Prop}
theorem iter_signs {x : Str} {px : Pos} {r : Addr} {t u v : Tok} {m₀ : Str → Option Value} {S c1 l : Addr} {o1 o : Obj} (g : Nat → Nat) {k : Int} {t4 : Tok}
    (hh : A.handled = none) (hr : IsRange s.heap r 0 4 1 t u v) (F : Fr h₀ env.locals s.heap m₀) (N : News h₀ env.locals s.heap [(S, PySem.W.listOf #[] 0), (c1, o1), (l, o)]) (ho1 : ∃ v, o1.data = .cell v)
    (hm1 : m₀ (Str.ofString "rows") = some (.ref l)) (hm2 : m₀ (Str.ofString "k") = some (.int k t4)) (hm3 : m₀ (Str.ofString "signs") = some (.ref S))
    (turn : ∀ I i t oI m' its o1 h tk, S < I → c1 < I → l < I → i < 4 → its.length = i → YsAre (fun j y => ∃ t, y = .str (ch (g j)) t) i its → (∃ v, o1.data = .cell v) → Kp3 l k t4 S m' → Fr h₀ env.locals h m' → News h₀ env.locals h [(I, oI), (S, LCg.lst its), (c1, o1), (l, o)] →
      wpAny (model prog w) A (assign (.Name x px) env (.int ((i : Nat) : Int) t)) (fun _ s₃ => wpAny (model prog w) A (execs body env) (LPost h₀ env.locals { s with heap := h, toks := tk } I oI [S, c1, l] (SignsInv S c1 l o g k t4 (i + 1))) E s₃) E { s with heap := h, toks := tk })
    (fin : ∀ m' its o1 h tk, SO 4 (fun j => ch (g j)) (LCg.lst its) → (∃ v, o1.data = .cell v) → Kp3 l k t4 S m' → Fr h₀ env.locals h m' → News h₀ env.locals h [(S, LCg.lst its), (c1, o1), (l, o)] → Q .next { s with heap := h, toks := tk }) :
    wpAny (model prog w) A (pyIter (.ref r)) (fun it s₂ => TurnsAt prog w A h₀ env (.Name x px) body Q E it s₂) E s := by
  refine iter_inv (SignsInv S c1 l o g k t4) hh hr F N ⟨[], o1, rfl, .nil, ho1, hm1, hm2, hm3⟩ (fun I i t oI m' nw h tk lI e hi hInv F' N' => ?_) fun m' nw h tk e hInv F' N' => ?_
  · obtain ⟨its, o1, rfl, hy, ho1, hK⟩ := hInv
    exact turn I i t oI m' its o1 h tk (lI _ (.head _)) (lI _ (.tail _ (.head _))) (lI _ (.tail _ (.tail _ (.head _)))) hi hy.length hy ho1 hK F' N'
  · obtain ⟨its, o1, rfl, hy, ho1, hK⟩ := hInv
    exact fin m' its o1 h tk hy.so ho1 hK F' N'
end
def SignsInv2 (S c2 c1 l : Addr) (o : Obj) (g : Nat → Nat) (k : Int) (t : Tok) (i : Nat) (m : Str → Option Value) (nw : List (Addr × Obj)) : Prop :=
  ∃ its o2 o1, nw = [(S, LCg.lst its), (c2, o2), (c1, o1), (l, o)] ∧ YsAre (fun j y => ∃ t, y = .str (ch (g j)) t) i its ∧ (∃ v, o2.data = .cell v) ∧ (∃ v, o1.data = .cell v) ∧ Kp3 l k t S m
section
variable {prog : Program} {w : World} {A : Around} {E : Value → Shared → Prop} {s : Shared} {env : Env} {h₀ : Heap} {body : List Stmt} {Q : Flow → Shared → Prop}
theorem iter_signs2 {x : Str} {px : Pos} {r : Addr} {t u v : Tok} {m₀ : Str → Option Value} {S c2 c1 l : Addr} {o2 o1 o : Obj} (g : Nat → Nat) {k : Int} {t4 : Tok}
    (hh : A.handled = none) (hr : IsRange s.heap r 0 4 1 t u v) (F : Fr h₀ env.locals s.heap m₀) (N : News h₀ env.locals s.heap [(S, PySem.W.listOf #[] 0), (c2, o2), (c1, o1), (l, o)]) (ho2 : ∃ v, o2.data = .cell v) (ho1 : ∃ v, o1.data = .cell v)
    (hm1 : m₀ (Str.ofString "rows") = some (.ref l)) (hm2 : m₀ (Str.ofString "k") = some (.int k t4)) (hm3 : m₀ (Str.ofString "signs") = some (.ref S))
    (turn : ∀ I i t oI m' its o2 o1 h tk, S < I → c2 < I → c1 < I → l < I → i < 4 → its.length = i → YsAre (fun j y => ∃ t, y = .str (ch (g j)) t) i its → (∃ v, o2.data = .cell v) → (∃ v, o1.data = .cell v) → Kp3 l k t4 S m' → Fr h₀ env.locals h m' → News h₀ env.locals h [(I, oI), (S, LCg.lst its), (c2, o2), (c1, o1), (l, o)] →
      wpAny (model prog w) A (assign (.Name x px) env (.int ((i : Nat) : Int) t)) (fun _ s₃ => wpAny (model prog w) A (execs body env) (LPost h₀ env.locals { s with heap := h, toks := tk } I oI [S, c2, c1, l] (SignsInv2 S c2 c1 l o g k t4 (i + 1))) E s₃) E { s with heap := h, toks := tk })
    (fin : ∀ m' its o2 o1 h tk, SO 4 (fun j => ch (g j)) (LCg.lst its) → Kp3 l k t4 S m' → Fr h₀ env.locals h m' → News h₀ env.locals h [(S, LCg.lst its), (c2, o2), (c1, o1), (l, o)] → Q .next { s with heap := h, toks := tk }) :
    wpAny (model prog w) A (pyIter (.ref r)) (fun it s₂ => TurnsAt prog w A h₀ env (.Name x px) body Q E it s₂) E s := by
  refine iter_inv (SignsInv2 S c2 c1 l o g k t4) hh hr F N ⟨[], o2, o1, rfl, .nil, ho2, ho1, hm1, hm2, hm3⟩ (fun I i t oI m' nw h tk lI e hi hInv F' N' => ?_) fun m' nw h tk e hInv F' N' => ?_
  · obtain ⟨its, o2, o1, rfl, hy, ho2, ho1, hK⟩ := hInv
    exact turn I i t oI m' its o2 o1 h tk (lI _ (.head _)) (lI _ (.tail _ (.head _))) (lI _ (.tail _ (.tail _ (.head _)))) (lI _ (.tail _ (.tail _ (.tail _ (.head _))))) hi hy.length hy ho2 ho1 hK F' N'
  · obtain ⟨its, o2, o1, rfl, hy, ho2, ho1, hK⟩ := hInv
    exact fin m' its o2 o1 h tk hy.so hK F' N'
end
theorem YsAre.three {P : Nat → Value → Prop} {ys : List Value} (h : YsAre P 3 ys) : ∃ a b c, ys = [a, b, c] ∧ P 0 a ∧ P 1 b ∧ P 2 c := by
  cases h with
  | snoc h c => cases h with
    | snoc h b => cases h with
      | snoc h a => cases h with
        | nil => exact ⟨_, _, _, rfl, a, b, c⟩
theorem cm_hi {x a b c : Nat} (h : tw x a + tw x b + tw x c = 3) : mx3 a b c = cm x a b c := by unfold cm; rw [if_pos h]
theorem cm_lo {x a b c : Nat} (h : ¬ tw x a + tw x b + tw x c = 3) (h' : tw x a + tw x b + tw x c = -3) : mn3 a b c = cm x a b c := by unfold cm; rw [if_neg h, if_pos h']
theorem cm_no {x a b c : Nat} (h : ¬ tw x a + tw x b + tw x c = 3) (h' : ¬ tw x a + tw x b + tw x c = -3) : x = cm x a b c := by unfold cm; rw [if_neg h, if_neg h']
section
variable {prog : Program} {w : World} {A : Around} {E : Value → Shared → Prop} {s : Shared} {h₀ : Heap} {L l : Addr} {m : Str → Option Value} {news : List (Addr × Obj)} {Q : Value → Shared → Prop}
theorem ys_sum3 {x : Nat} {f : Nat → Nat} {ys : List Value} (hh : A.handled = none) (F : Fr h₀ L s.heap m) (N : News h₀ L s.heap news) (hm : (l, LCg.lst ys) ∈ news) (hy : YsAre (fun a y => ∃ t, y = .int (tw x (f a)) t) 3 ys)
    (h : ∀ h' (t : Tok) tk, Fr h₀ L h' m → News h₀ L h' news → Q (.int (tw x (f 0) + tw x (f 1) + tw x (f 2)) t) { s with heap := h', toks := tk }) : wpAny (model prog w) A (call (.builtin "sum") [.ref l]) Q E s := by
  obtain ⟨_, _, _, rfl, ⟨_, rfl⟩, ⟨_, rfl⟩, ⟨_, rfl⟩⟩ := hy.three
  exact sum3 hh F N hm h
end
-- N3
theorem median_S (w : World) (l : Addr) (o : Obj) (f : Nat → Nat) (hS : SO 3 (fun i => ch (f i)) o) :
    Says 4 w 34 [.ref l] [(l, o)] (fun r tl => (∃ t, r = .str (ch (med (f 0) (f 1) (f 2))) t) ∧ tl = []) := by
  obtain ⟨_, _, _, _, rfl⟩ := hS.three
  exact median_C w l _ _ _ _ _ _ _
def Kp2 (l S : Addr) (m : Str → Option Value) : Prop := m (Str.ofString "rows") = some (.ref l) ∧ m (Str.ofString "changed") = some (.ref S)
theorem kp2_open {l S : Addr} {m : Str → Option Value} (h : Kp2 l S m) : m = fun y => if y = Str.ofString "rows" then some (.ref l) else if y = Str.ofString "changed" then some (.ref S) else m y := by
  obtain ⟨h1, h2⟩ := h
  funext y
  by_cases e1 : y = Str.ofString "rows"
  · rw [if_pos e1, e1, h1]
  · rw [if_neg e1]
    by_cases e2 : y = Str.ofString "changed"
    · rw [if_pos e2, e2, h2]
    · rw [if_neg e2]
def RoundInv (S c1 l : Addr) (o : Obj) (g : Nat → Nat → Nat) (i : Nat) (m : Str → Option Value) (nw : List (Addr × Obj)) : Prop :=
  ∃ its o1, nw = [(S, LCg.lst its), (c1, o1), (l, o)] ∧ YsAre (fun j y => ∃ t, y = .str (rowF (g j)) t) i its ∧ (∃ v, o1.data = .cell v) ∧ Kp2 l S m
section
variable {prog : Program} {w : World} {A : Around} {E : Value → Shared → Prop} {s : Shared} {env : Env} {h₀ : Heap} {body : List Stmt} {Q : Flow → Shared → Prop}
theorem iter_round {x : Str} {px : Pos} {r : Addr} {t u v : Tok} {m₀ : Str → Option Value} {S c1 l : Addr} {o1 o : Obj} (g : Nat → Nat → Nat)
    (hh : A.handled = none) (hr : IsRange s.heap r 0 4 1 t u v) (F : Fr h₀ env.locals s.heap m₀) (N : News h₀ env.locals s.heap [(S, PySem.W.listOf #[] 0), (c1, o1), (l, o)]) (ho1 : ∃ v, o1.data = .cell v)
    (hm1 : m₀ (Str.ofString "rows") = some (.ref l)) (hm3 : m₀ (Str.ofString "changed") = some (.ref S))
    (turn : ∀ I i t oI m' its o1 h tk, S < I → c1 < I → l < I → i < 4 → its.length = i → YsAre (fun j y => ∃ t, y = .str (rowF (g j)) t) i its → (∃ v, o1.data = .cell v) → Kp2 l S m' → Fr h₀ env.locals h m' → News h₀ env.locals h [(I, oI), (S, LCg.lst its), (c1, o1), (l, o)] →
      wpAny (model prog w) A (assign (.Name x px) env (.int ((i : Nat) : Int) t)) (fun _ s₃ => wpAny (model prog w) A (execs body env) (LPost h₀ env.locals { s with heap := h, toks := tk } I oI [S, c1, l] (RoundInv S c1 l o g (i + 1))) E s₃) E { s with heap := h, toks := tk })
    (fin : ∀ m' its o1 h tk, SO 4 (fun j => rowF (g j)) (LCg.lst its) → Kp2 l S m' → Fr h₀ env.locals h m' → News h₀ env.locals h [(S, LCg.lst its), (c1, o1), (l, o)] → Q .next { s with heap := h, toks := tk }) :
    wpAny (model prog w) A (pyIter (.ref r)) (fun it s₂ => TurnsAt prog w A h₀ env (.Name x px) body Q E it s₂) E s := by
  refine iter_inv (RoundInv S c1 l o g) hh hr F N ⟨[], o1, rfl, .nil, ho1, hm1, hm3⟩ (fun I i t oI m' nw h tk lI e hi hInv F' N' => ?_) fun m' nw h tk e hInv F' N' => ?_
  · obtain ⟨its, o1, rfl, hy, ho1, hK⟩ := hInv
    exact turn I i t oI m' its o1 h tk (lI _ (.head _)) (lI _ (.tail _ (.head _))) (lI _ (.tail _ (.tail _ (.head _)))) hi hy.length hy ho1 hK F' N'
  · obtain ⟨its, o1, rfl, hy, ho1, hK⟩ := hInv
    exact fin m' its o1 h tk hy.so hK F' N'
end
section
variable {prog : Program} {w : World} {A : Around} {E : Value → Shared → Prop} {s : Shared} {h₀ : Heap} {L : Addr} {m : Str → Option Value} {env : Env}
theorem ListComp_cellF {elt iter : Expr} {x : Str} {px : Pos} {scope : Scope} {cl : List (Str × Addr)} {pos : Pos} {n : Nat} (P : Nat → Value → Prop) {Q : Value → Shared → Prop} (_F : Fr h₀ L s.heap m) (hclos : closureFor scope env = pure cl)
    (hcf : ∀ k, cellsFrom k scope.names cl = (x, k) :: cl) (hpc : ∀ h, pushCells h scope.names = h.push { cls := .type "cell", data := .cell none }) (hkind : scope.kind = .function)
    (hnames : ∀ y ∈ scope.names, y.2 = .local → scope.names.lookup y.1 = some .local) (hx : ∀ c C, (compEnvC scope ((x, c) :: cl) C env).kindOf x = some .cell)
    (h : wpAny (model prog w) A (eval iter env) (CellTurns prog w A h₀ L m env elt x scope cl n P Q) E s)
    (hs : ∀ x, foldedSetIterable iter env x = pure x) :
    wpAny (model prog w) A (eval (.ListComp elt [⟨.Name x px, iter, [], 0⟩] scope pos) env) Q E s := ListComp_cell hclos hcf hpc hkind hnames hx h hs
end
-- N4
section
variable {prog : Program} {w : World} {A : Around} {E : Value → Shared → Prop} {s : Shared} {env : Env} {test : Expr} {body orelse : List Stmt} {Q : Flow → Shared → Prop} {n : Nat}
theorem sld_cut3 (h₀ : Heap) (L mi un l k lc : Addr) (ol ok oc : Obj) (f g : Nat → Nat) (s₀ : Shared)
    (hs : SldAt h₀ L mi un l k lc ol ok oc f g s₀ 0 s)
    (h3 : ∀ s, SldAt h₀ L mi un l k lc ol ok oc f g s₀ 3 s → WhlRest prog w A E env test body orelse Q n s)
    (hstep : ∀ i, i < 3 → (∀ s, SldAt h₀ L mi un l k lc ol ok oc f g s₀ (i + 1) s → WhlRest prog w A E env test body orelse Q n s) → ∀ s, SldAt h₀ L mi un l k lc ol ok oc f g s₀ i s → WhlRest prog w A E env test body orelse Q n s) :
    WhlRest prog w A E env test body orelse Q n s := hstep 0 (by decide) (hstep 1 (by decide) (hstep 2 (by decide) h3)) s hs
end
section
variable {prog : Program} {w : World} {A : Around} {E : Value → Shared → Prop} {s : Shared} {h₀ : Heap} {L : Addr} {m : Str → Option Value} {news : List (Addr × Obj)} {Q : Value → Shared → Prop} {l : Addr} {o : Obj} {n : Nat} {g : Nat → Str}
theorem so_item1 {value slice : Expr} {k : Nat} {u : Tok} (N : News h₀ L s.heap news) (hm : (l, o) ∈ news) (hS : SO n g o) (hk : k + 1 < n) (hn : n ≤ 100) (h : ∀ t, Q (.str (g (k + 1)) t) s)
    (hs : subscripted slice false (.ref l) (.int (((k : Nat) : Int) + 1) u) = operate [.ref l, .int (((k : Nat) : Int) + 1) u] (getItem (.ref l) (.int (((k : Nat) : Int) + 1) u))) :
    wpAny (model prog w) A (subscriptTail value slice (.ref l) (.int (((k : Nat) : Int) + 1) u)) Q E s :=
  so_item (k := k + 1) N hm hS hk hn h hs
end
-- N6
/-- a top tuple of pairs of an int and a sign -/
inductive Ents (K : Frag) : List Value → List (Int × Nat) → Prop
  | nil : Ents K [] []
  | cons {e : Addr} {o : Obj} {n : Nat} {b : Int} {c : Nat} {tb tc : Tok} {vs : List Value} {tab : List (Int × Nat)} (hk : K.lookup e = some o) (hc : o.cls = .type "tuple") (hd : o.data = .seq #[.int b tb, .str (ch c) tc] n) (h : Ents K vs tab) : Ents K (.ref e :: vs) ((b, c) :: tab)
/-- a top tuple of such tables -/
inductive Tabs (K : Frag) : List Value → List (List (Int × Nat)) → Prop
  | nil : Tabs K [] []
  | cons {T : Addr} {lo : Obj} {n : Nat} {items vs : List Value} {tab : List (Int × Nat)} {tabs : List (List (Int × Nat))} (hk : K.lookup T = some lo) (hc : lo.cls = .type "tuple") (hd : lo.data = .seq (List.toArray items) n) (he : Ents K items tab) (h : Tabs K vs tabs) : Tabs K (.ref T :: vs) (tab :: tabs)
theorem Tabs.at {K : Frag} {vs : List Value} {tabs : List (List (Int × Nat))} (h : Tabs K vs tabs) : ∀ (i : Nat) (v : Value), vs[i]? = some v →
    ∃ T lo n items, v = .ref T ∧ K.lookup T = some lo ∧ lo.cls = .type "tuple" ∧ lo.data = .seq (List.toArray items) n ∧ Ents K items (tabs.getD i []) := by
  induction h with
  | nil => intro i v hv; cases hv
  | cons hk hc hd he _ ih =>
    intro i v hv
    cases i with
    | zero => cases hv; exact ⟨_, _, _, _, rfl, hk, hc, hd, he⟩
    | succ i => exact ih i v hv
theorem open3 {a b c : Str} {u v w : Value} {m : Str → Option Value} (h1 : m a = some u) (h2 : m b = some v) (h3 : m c = some w) : m = fun y => if y = a then some u else if y = b then some v else if y = c then some w else m y := by
  funext y
  by_cases e1 : y = a
  · rw [if_pos e1, e1, h1]
  · rw [if_neg e1]
    by_cases e2 : y = b
    · rw [if_pos e2, e2, h2]
    · rw [if_neg e2]
      by_cases e3 : y = c
      · rw [if_pos e3, e3, h3]
      · rw [if_neg e3]
section
variable {prog : Program} {w : World} {A : Around} {E : Value → Shared → Prop} {s : Shared} {env : Env} {h₀ : Heap} {target : Expr} {body orelse : List Stmt} {Q : Flow → Shared → Prop} {K : Frag} {I : Addr} {news : List (Addr × Obj)}
/-- all turns of a for with an else over a table: one turn for all -/
theorem else_all (P : Int → Prop) (pick : List (Int × Nat) → Nat) (hp : ∀ {b c r}, P b → pick ((b, c) :: r) = c) (hn : ∀ {b c r}, ¬ P b → pick ((b, c) :: r) = pick r) (x : Nat) (Inv : (Str → Option Value) → Prop)
    (hnil : ∀ m h tk, Inv m → pick [] = x → Fr h₀ env.locals h m → News h₀ env.locals h news → wpAny (model prog w) A (execs orelse env) Q E { s with heap := h, toks := tk })
    (hcons : ∀ e o n b c tb tc (rest : (Str → Option Value) → Prop) m oI h tk, K.lookup e = some o → o.cls = .type "tuple" → o.data = .seq #[.int b tb, .str (ch c) tc] n → Inv m → Fr h₀ env.locals h m → News h₀ env.locals h ((I, oI) :: news) → (P b → c = x) → (¬ P b → ∀ m', Inv m' → rest m') →
      wpAny (model prog w) A (assign target env (.ref e)) (fun _ s₂ => wpAny (model prog w) A (execs body env) (ElsePost h₀ env.locals s I oI news rest Q) E s₂) E { s with heap := h, toks := tk }) :
    ∀ {vs tab}, Ents K vs tab → pick tab = x → ∀ m, Inv m → ElseRest prog w A E h₀ env target body orelse Q s I news vs m := by
  intro vs tab hE
  induction hE with
  | nil => intro hx m hI; exact ElseRest.zero fun h tk F N => hnil m h tk hI hx F N
  | @cons e o n b c tb tc vs tab hk hc hd _ ih =>
    intro hx m hI
    refine ElseRest.succ fun oI h tk _ F N => hcons e o n b c tb tc _ m oI h tk hk hc hd hI F N (fun hb => (hp hb).symm.trans hx) fun hb m' hI' => ih ((hn hb).symm.trans hx) m' hI'
end
/-- what a turn over an enumerated table leaves -/
def EPost (h₀ : Heap) (L : Addr) (s₁ : Shared) (J I : Addr) (oJ oI : Obj) (S : Addr) (Inv : (Str → Option Value) → Obj → Prop) (f : Flow) (s' : Shared) : Prop :=
  f = .next ∧ ∃ h' tk' m' o, s' = { s₁ with heap := h', toks := tk' } ∧ Fr h₀ L h' m' ∧ News h₀ L h' [(J, oJ), (I, oI), (S, o)] ∧ Inv m' o
theorem EPost.intro {h₀ : Heap} {L : Addr} {s₁ : Shared} {J I : Addr} {oJ oI : Obj} {S : Addr} {Inv : (Str → Option Value) → Obj → Prop} {h' : Heap} {tk' : Nat} {m' : Str → Option Value} {o : Obj} {big : List (Addr × Obj)}
    (F : Fr h₀ L h' m') (N : News h₀ L h' big) (sub : ∀ p ∈ [(J, oJ), (I, oI), (S, o)], p ∈ big) (i : Inv m' o) : EPost h₀ L s₁ J I oJ oI S Inv .next { s₁ with heap := h', toks := tk' } := ⟨rfl, h', tk', m', o, rfl, F, cb_drop N sub, i⟩
section
variable {prog : Program} {w : World} {A : Around} {E : Value → Shared → Prop} {s : Shared} {env : Env} {h₀ : Heap} {body : List Stmt} {Q : Flow → Shared → Prop}
theorem enum_inv {elts : List Expr} {k : Nat} {pos : Pos} {l : Addr} {lo : Obj} {vs : List Value} {n : Nat} {m₀ : Str → Option Value} {K : Frag} {S : Addr} {o₀ : Obj} (Inv : Nat → (Str → Option Value) → Obj → Prop)
    (hh : A.handled = none) (F : Fr h₀ env.locals s.heap m₀) (N : News h₀ env.locals s.heap [(S, o₀)]) (X₀ : K.In h₀) (hk : K.lookup l = some lo) (hc : lo.cls = .type "tuple") (hd : lo.data = .seq vs.toArray n) (hI : Inv 0 m₀ o₀)
    (turn : ∀ J I i v T t oJ oI m' o h tk, S < I → S < J → vs[i]? = some v → Inv i m' o → IsTup h T #[.int ((i : Nat) : Int) t, v] → Fr h₀ env.locals h m' → News h₀ env.locals h [(J, oJ), (I, oI), (S, o)] →
      wpAny (model prog w) A (assign (.Tuple elts k pos) env (.ref T)) (fun _ s₂ => wpAny (model prog w) A (execs body env) (EPost h₀ env.locals { s with heap := h, toks := tk } J I oJ oI S (Inv (i + 1))) E s₂) E { s with heap := h, toks := tk })
    (fin : ∀ m' o h tk, Inv vs.length m' o → Fr h₀ env.locals h m' → News h₀ env.locals h [(S, o)] → Q .next { s with heap := h, toks := tk }) :
    wpAny (model prog w) A (call (.type "enumerate") [.ref l]) (fun xv s₁ => wpAny (model prog w) A (pyIter xv) (fun it s₂ => TurnsAt prog w A h₀ env (.Tuple elts k pos) body Q E it s₂) E s₁) E s := by
  refine ktg_enumT hh F N X₀ hk hc hd rfl fun I hlt => ?_
  have lS : S < I := hlt _ (.head _)
  have key : ∀ (r : List Value) (i : Nat) m' o, (∀ j, vs[i + j]? = r[j]?) → i + r.length = vs.length → Inv i m' o →
      ItemsRest prog w A E h₀ env (.Tuple elts k pos) body Q s [(I + 1, "enumerate"), (I, "tuple_iterator")] [] (enumItems i r) m' [(S, o)] := by
    intro r
    induction r with
    | nil =>
      intro i m' o _ hi hK h tk F' N'
      obtain rfl : i = vs.length := hi
      exact fin m' o h tk hK F' N'
    | cons v r ih =>
      intro i m' o hv hi hK v' h tk ⟨T, t, e, hT⟩ F' oJ _ oI _ N'
      subst e
      refine wpAny_mono (turn (I + 1) I i v T t oJ oI m' o h tk lS (Nat.lt_succ_of_lt lS) (hv 0) hK hT F' N') (fun _ s₃ h₃ => wpAny_mono h₃ (fun f s₄ h₄ => ?_) fun _ _ e => e) fun _ _ e => e
      obtain ⟨rfl, h', tk', m'', o', rfl, F'', N'', hK''⟩ := h₄
      refine ⟨h', tk', m'', [(S, o')], rfl, F'', N'', fun p hp q hq => ?_, trivial, ih (i + 1) m'' o' (fun j => ?_) (by rw [← hi, List.length_cons]; omega) hK''⟩
      · rw [List.mem_singleton.mp hp]
        rcases List.mem_cons.mp hq with rfl | hq
        · exact Nat.ne_of_lt (Nat.lt_succ_of_lt lS)
        · rw [List.mem_singleton.mp hq]; exact Nat.ne_of_lt lS
      · rw [Nat.add_assoc, Nat.add_comm 1 j]; exact hv (j + 1)
  exact key vs 0 m₀ o₀ (fun j => by rw [Nat.zero_add]) (Nat.zero_add _) hI
end
def FmInv (nV : Value) (S : Addr) (g : Nat → Nat) (i : Nat) (m : Str → Option Value) (o : Obj) : Prop :=
  ∃ its, o = LCg.lst its ∧ YsAre (fun j y => ∃ t, y = .str (ch (g j)) t) i its ∧ m (Str.ofString "mode") = some nV ∧ m (Str.ofString "perm") = some (.ref S)
section
variable {prog : Program} {w : World} {A : Around} {E : Value → Shared → Prop} {s : Shared} {env : Env} {h₀ : Heap} {body : List Stmt} {Q : Flow → Shared → Prop}
theorem enum_fm {elts : List Expr} {k : Nat} {pos : Pos} {l : Addr} {lo : Obj} {vs : List Value} {n : Nat} {m₀ : Str → Option Value} {K : Frag} {S : Addr} {nV : Value} (g : Nat → Nat) (tabs : List (List (Int × Nat)))
    (hh : A.handled = none) (F : Fr h₀ env.locals s.heap m₀) (N : News h₀ env.locals s.heap [(S, PySem.W.listOf #[] 0)]) (X₀ : K.In h₀) (hk : K.lookup l = some lo) (hc : lo.cls = .type "tuple") (hd : lo.data = .seq vs.toArray n) (hT : Tabs K vs tabs)
    (h1 : m₀ (Str.ofString "mode") = some nV) (h2 : m₀ (Str.ofString "perm") = some (.ref S))
    (turn : ∀ J I i T lo n items Tp t oJ oI m' its h tk, S < I → S < J → K.lookup T = some lo → lo.cls = .type "tuple" → lo.data = .seq (List.toArray items) n → Ents K items (tabs.getD i []) → IsTup h Tp #[.int ((i : Nat) : Int) t, .ref T] → its.length = i → YsAre (fun j y => ∃ t, y = .str (ch (g j)) t) i its → m' (Str.ofString "mode") = some nV → m' (Str.ofString "perm") = some (.ref S) →
      Fr h₀ env.locals h m' → News h₀ env.locals h [(J, oJ), (I, oI), (S, LCg.lst its)] → i < vs.length →
      wpAny (model prog w) A (assign (.Tuple elts k pos) env (.ref Tp)) (fun _ s₂ => wpAny (model prog w) A (execs body env) (EPost h₀ env.locals { s with heap := h, toks := tk } J I oJ oI S (FmInv nV S g (i + 1))) E s₂) E { s with heap := h, toks := tk })
    (fin : ∀ m' its h tk, YsAre (fun j y => ∃ t, y = .str (ch (g j)) t) vs.length its → m' (Str.ofString "mode") = some nV → m' (Str.ofString "perm") = some (.ref S) → Fr h₀ env.locals h m' → News h₀ env.locals h [(S, LCg.lst its)] → Q .next { s with heap := h, toks := tk }) :
    wpAny (model prog w) A (call (.type "enumerate") [.ref l]) (fun xv s₁ => wpAny (model prog w) A (pyIter xv) (fun it s₂ => TurnsAt prog w A h₀ env (.Tuple elts k pos) body Q E it s₂) E s₁) E s := by
  refine enum_inv (FmInv nV S g) hh F N X₀ hk hc hd ⟨[], rfl, .nil, h1, h2⟩ (fun J I i v T t oJ oI m' o h tk lI lJ hv hInv hTp F' N' => ?_) fun m' o h tk hInv F' N' => ?_
  · obtain ⟨its, rfl, hy, e1, e2⟩ := hInv
    obtain ⟨T', lo', n', items, rfl, k1, k2, k3, k4⟩ := hT.at i v hv
    exact turn J I i T' lo' n' items T t oJ oI m' its h tk lI lJ k1 k2 k3 k4 hTp hy.length hy e1 e2 F' N' (List.getElem?_eq_some_iff.mp hv).1
  · obtain ⟨its, rfl, hy, e1, e2⟩ := hInv
    exact fin m' its h tk hy e1 e2 F' N'
end
section
variable {prog : Program} {w : World} {A : Around} {E : Value → Shared → Prop} {s : Shared} {h₀ : Heap} {L : Addr} {news : List (Addr × Obj)} {Q : Value → Shared → Prop}
theorem so_join10 {D : Addr} {o : Obj} {t : Tok} (g : Nat → Nat) (N : News h₀ L s.heap news) (hm : (D, o) ∈ news) (hS : SO 10 (fun i => ch (g i)) o)
    (hq : ∀ t' tk, Q (.str ⟨#[g 0, g 1, g 2, g 3, g 4, g 5, g 6, g 7, g 8, g 9]⟩ t') { s with toks := tk }) : wpAny (model prog w) A (call (.builtin "str.join") [.str (Str.ofString "") t, .ref D]) Q E s := by
  obtain ⟨l, k, rfl, h0⟩ := hS
  obtain ⟨t0, r0, rfl, h1⟩ := h0.cons
  obtain ⟨t1, r1, rfl, h2⟩ := h1.cons
  obtain ⟨t2, r2, rfl, h3⟩ := h2.cons
  obtain ⟨t3, r3, rfl, h4⟩ := h3.cons
  obtain ⟨t4, r4, rfl, h5⟩ := h4.cons
  obtain ⟨t5, r5, rfl, h6⟩ := h5.cons
  obtain ⟨t6, r6, rfl, h7⟩ := h6.cons
  obtain ⟨t7, r7, rfl, h8⟩ := h7.cons
  obtain ⟨t8, r8, rfl, h9⟩ := h8.cons
  obtain ⟨t9, r9, rfl, h10⟩ := h9.cons
  cases h10.nil
  exact join10 N hm hq
end
-- N7
/-- a contract over a heap of which more is known -/
def SaysP (pre : Heap → Prop) (lv : Nat) (w : World) (f : Addr) (vs : List Value) (own : List (Addr × Obj)) (post : Value → List (Addr × Obj) → Prop) : Prop :=
  ∀ (mean : ExcName → Option Value) (mg mb : Str → Option Value) (dp un : Nat) (gd : Option (List Code)) (cn : Str) (cs : Scope) (a : Addr) (ccd : Value) (cl : List (Str × Addr)) (outer : List Env) (A₀ : Around) (base h₀ : Heap) (L : Addr) (m : Str → Option Value) (news : List (Addr × Obj)) (s : Shared)
    (Q E : Value → Shared → Prop),
    Below A₀ base outer h₀ → Fr h₀ L s.heap m → (Mine.hd.heap_39 w.params).In h₀ → News h₀ L s.heap news →
    Top Mine.hd.view_39 (looseW Mine.hd.view_39 [Str.ofString "_filemode_table"]) mean mg mb h₀ → cs.kind = .function →
    dp + lv < recursionLimit → un + 8 * lv < cLine → (∀ p ∈ own, p ∈ news) → pre h₀ →
    (∀ r tl h' tk', post r tl → Fr h₀ L h' m → News h₀ L h' (tl ++ news) → (∀ p ∈ tl, LCg.Off1 p.1 news) → Q r { s with heap := h', toks := tk' }) →
    wpAny (model PySem.Challenge.rw_oc0089_01.row.prog w) (ktrTop dp un gd cn cs L a ccd cl outer) (call (.ref f) vs) Q E s
theorem SaysP.use {pre : Heap → Prop} {lv : Nat} {w : World} {f : Addr} {vs : List Value} {own : List (Addr × Obj)} {post : Value → List (Addr × Obj) → Prop} (C : SaysP pre lv w f vs own post)
    {mean : ExcName → Option Value} {mg mb : Str → Option Value} {dp un : Nat} {gd : Option (List Code)} {cn : Str} {cs : Scope} {a : Addr} {ccd : Value} {cl : List (Str × Addr)} {outer : List Env} {A₀ : Around} {base h₀ : Heap} {L : Addr} {m : Str → Option Value} {news : List (Addr × Obj)} {s : Shared}
    {Q E : Value → Shared → Prop}
    (B : Below A₀ base outer h₀) (F : Fr h₀ L s.heap m) (X : (Mine.hd.heap_39 w.params).In h₀) (N : News h₀ L s.heap news)
    (T : Top Mine.hd.view_39 (looseW Mine.hd.view_39 [Str.ofString "_filemode_table"]) mean mg mb h₀) (hk : cs.kind = .function)
    (hd : dp + lv < recursionLimit) (hu : un + 8 * lv < cLine) (hs : ∀ p ∈ own, p ∈ news) (hp : pre h₀)
    (ret : ∀ r tl h' tk', post r tl → Fr h₀ L h' m → News h₀ L h' (tl ++ news) → (∀ p ∈ tl, LCg.Off1 p.1 news) → Q r { s with heap := h', toks := tk' }) :
    wpAny (model PySem.Challenge.rw_oc0089_01.row.prog w) (ktrTop dp un gd cn cs L a ccd cl outer) (call (.ref f) vs) Q E s :=
  C _ _ _ _ _ _ _ _ _ _ _ _ _ _ _ _ _ _ _ _ _ B F X N T hk hd hu hs hp ret
def Bd (n : Int) : Prop := 0 ≤ n ∧ n < 65536
theorem bd_fmod (x : Int) : Bd (Int.fmod x 65536) := by
  rw [Int.fmod_eq_emod_of_nonneg _ (by decide)]
  exact ⟨Int.emod_nonneg _ (by decide), Int.emod_lt_of_pos _ (by decide)⟩
abbrev IO (n : Nat) (g : Nat → Int) (o : Obj) : Prop := VO n (fun i t => .int (g i) t) o
/-- ints from 0 to 65535 -/
def BL (l : List Value) : Prop := ∀ v ∈ l, ∃ k t, v = .int k t ∧ Bd k
theorem BL.io {l : List Value} (h : BL l) (hl : l.length = 4) : ∃ n : Nat → Int, VV 4 (fun i t => .int (n i) t) l ∧ ∀ i, Bd (n i) := by
  refine ⟨fun i => match l[i]? with | some (.int k _) => k | _ => 0, ⟨hl, fun i hi => ?_⟩, fun i => ?_⟩
  · have e := List.getElem?_eq_getElem (l := l) (i := i) (hl ▸ hi)
    obtain ⟨k, t, hv, _⟩ := h _ (List.getElem_mem (hl ▸ hi))
    exact ⟨t, by dsimp only; rw [e, hv]⟩
  · dsimp only
    cases e : l[i]? with
    | none => exact ⟨Int.le_refl _, by decide⟩
    | some v =>
      obtain ⟨k, t, rfl, hb⟩ := h v (List.mem_of_getElem? e)
      exact hb
theorem vv_ints {vs : List Value} {ns : List Int} (h : IntsAre vs ns) : VV vs.length (fun i t => .int (ns.getD i 0) t) vs := by
  refine ⟨rfl, fun i hi => ?_⟩
  obtain ⟨k, t, e, hk⟩ := h.at i _ (List.getElem?_eq_getElem hi)
  have q : ns.getD i 0 = k := by rw [List.getD_eq_getElem?_getD, hk]; rfl
  exact ⟨t, by rw [List.getElem?_eq_getElem hi, e]; exact congrArg (fun z => some (Value.int z t)) q.symm⟩
theorem VV.take {n k : Nat} {V : Nat → Tok → Value} {l : List Value} (h : VV n V l) : VV (min k n) V (l.take k) :=
  ⟨by rw [List.length_take, h.1], fun i hi => by
    rw [List.getElem?_take_of_lt (Nat.lt_of_lt_of_le hi (Nat.min_le_left _ _))]
    exact h.2 i (Nat.lt_of_lt_of_le hi (Nat.min_le_right _ _))⟩
theorem bl_ys {g : Nat → Int} {n : Nat} {ys : List Value} (h : YsAre (fun i y => ∃ t, y = .int (g i) t) n ys) (hb : ∀ i, Bd (g i)) : BL ys := by
  induction h with
  | nil => exact fun _ h => nomatch h
  | snoc _ p ih =>
    intro v hv
    rcases List.mem_append.mp hv with hv | hv
    · exact ih v hv
    · obtain ⟨t, e⟩ := p
      exact ⟨_, t, (List.mem_singleton.mp hv).trans e, hb _⟩
theorem bl_end {ys : List Value} (h : BL ys) (t0 t1 t2 t3 : Tok) : ∃ n : Nat → Int, VV 4 (fun i t => .int (n i) t) ((ys ++ [Value.int 33261 t0, Value.int 16832 t1, Value.int 41471 t2, Value.int 24624 t3]).take 4) ∧ ∀ i, Bd (n i) := by
  refine BL.io (fun v hv => ?_) (by rw [List.length_take, List.length_append]; exact Nat.min_eq_left (Nat.le_add_left _ _))
  rcases List.mem_append.mp (List.mem_of_mem_take hv) with hv | hv
  · exact h v hv
  · simp only [List.mem_cons, List.not_mem_nil, or_false] at hv
    rcases hv with rfl | rfl | rfl | rfl
    · exact ⟨_, _, rfl, by decide, by decide⟩
    · exact ⟨_, _, rfl, by decide, by decide⟩
    · exact ⟨_, _, rfl, by decide, by decide⟩
    · exact ⟨_, _, rfl, by decide, by decide⟩
section
variable {prog : Program} {w : World} {A : Around} {E : Value → Shared → Prop} {s : Shared} {h₀ : Heap} {L : Addr} {m : Str → Option Value} {news news' : List (Addr × Obj)} {Q : Value → Shared → Prop} {l D b : Addr} {vs : List Value} {n2 : Nat} {u : Tok}
theorem take4 {value slice : Expr} (F : Fr h₀ L s.heap m) (N : News h₀ L s.heap news) (hl : s.heap.IsList l vs.toArray) (hz : vs.length ≤ 100)
    (h : ∀ D h', Fr h₀ L h' m → News h₀ L h' ((D, PySem.W.listOf (vs.take 4).toArray 0) :: news) → (∀ p ∈ news, p.1 < D) → Q (.ref D) { s with heap := h' })
    (hs : subscripted slice false (.ref l) (.ref s.heap.objs.size) = operate [.ref s.heap.objs.size, .ref l] (getItem (.ref l) (.ref s.heap.objs.size))) (ht : ∀ r, letTemporaryGo value (.ref l) r = pure ()) :
    wpAny (model prog w) A (subscriptTail value slice (.ref l) (.ref s.heap.objs.size)) Q E { s with heap := s.heap.push { cls := .type "slice", data := .fields #[.none, .int 4 u, .none] } } := by
  refine kms_slice_lit F N hl .none (.int _ _) (zs := vs.take 4) ?_ h hs ht (by rw [List.size_toArray, sizeLine_eq]; omega)
  show (vs.drop 0).take (min 4 vs.length - 0) = _
  rw [List.drop_zero, Nat.sub_zero]
  by_cases q : 4 ≤ vs.length
  · rw [Nat.min_eq_left q]
  · rw [Nat.min_eq_right (by omega), List.take_of_length_le (Nat.le_refl _), List.take_of_length_le (by omega)]
theorem ext_lit {ys zs : List Value} (F : Fr h₀ L s.heap m) (N : News h₀ L s.heap news) (hb : (b, PySem.W.listOf (List.toArray zs) n2) ∈ news) (hy : ys.length ≤ 4) (hz : zs.length = 4) (U : Upd D (LCg.lst ys) (PySem.W.listOf (ys ++ zs).toArray (ys.length + 1)) news news')
    (h : ∀ h', Fr h₀ L h' m → News h₀ L h' news' → Q .none { s with heap := h' }) : wpAny (model prog w) A (call (.builtin "list.extend") [.ref D, .ref b]) Q E s :=
  kl_extend F N hb rfl (by show zs.length ≠ 0; rw [hz]; decide) U (ext_door (by rw [List.size_toArray, List.size_toArray]; omega)) (by show ys.length ≤ _; rw [sizeLine_eq]; omega) (by rw [List.size_toArray, List.size_toArray, sizeLine_eq]; omega) h
end
end Mine
local macro_rules | `(tactic| k_ne) => `(tactic| (refine neN ?_; (try dsimp only); first | assumption | exact Ne.symm (by assumption) | exact Nat.ne_of_lt (by assumption) | exact Ne.symm (Nat.ne_of_lt (by assumption)) | omega))
local macro_rules | `(tactic| k_lt $h:ident) => `(tactic| (replace $h := allLt_of $h; dsimp only [AllLt] at $h:ident; (repeat ((with_reducible rename _ ∧ _ => hA9); (have hA1 := And.left hA9); (have hA2 := And.right hA9); clear hA9))))
-- G8
namespace Mine
theorem ifmt_C (w : World) (n : Int) (t : Tok) :
    Says 4 w 41 [.int n t] [] (fun r tl => (∃ t, r = .int (Builtin.bitAnd n 61440) t) ∧ tl = []) := by
  unfold Says
  k_fill
  intro mean mg mb dp un gd cn cs a ccd cl outer A₀ base h₀ L m news s Q E B F X Nn T hk hd hu hs hret
  have N := cb_drop Nn hs
  refine wpAny_call ?_
  k_dflt (refine' enterHL (binds := [(Str.ofString "mode", .int n t)]) ?k1 ?k2 ?k3 ?k4 ?k5 ?kA ?kF ?kK ?k6 ?k7 ?k8 ?k9 ?kB ?_ ?c2 ?c3 ?c4 ?c5; (case kA => exact rfl); (case kF => exact rfl); (case kK => assumption); (case k1 => k_asm); (case k2 => k_asm); (case k3 => k_asm); (case k4 => exact N); (case k5 => k_asm); (case k6 => k_is); (case k7 => k_is); (case k8 => ktr_room); (case k9 => exact BindsTo.of_eq rfl); (case c5 => decide); (case kB => exact locs rfl); (case c2 => exact rfl); (case c3 => exact rfl); (case c4 => exact rfl); k_whole; intro g' L' h' FG' F' N' B' X' T' K9 e9 A9 E9; clear N; (try dsimp only); (try k_fold))
  (repeat' (first | (k_unfold; (try dsimp only)) | (k_end; wrow_close) | ((with_reducible show wpAny _ _ (exec _ _) _ _ _); refine absQ ?_; intro Q9 hQ9; walk1) | walk1 | (dsimp only; walk1) | ((with_reducible refine absQ_end (by with_reducible assumption) ?_); (try dsimp only)) | (leave1; walk_say "STEP leave1"; try dsimp only) | fail "no step"))
  exact fin0 Nn hs K9 hret (by assumption) (by assumption) (by assumption) (by assumption) (List.forall_mem_nil _) ⟨⟨_, rfl⟩, rfl⟩
def fmTabs : List (List (Int × Nat)) := [[(40960, 108), (49152, 115), (32768, 45), (24576, 98), (16384, 100), (8192, 99), (4096, 112)], [(256, 114)], [(128, 119)], [(2112, 115), (2048, 83), (64, 120)], [(32, 114)], [(16, 119)], [(1032, 115), (1024, 83), (8, 120)], [(4, 114)], [(2, 119)], [(513, 116), (512, 84), (1, 120)]]
def fms (n : Int) (i : Nat) : Nat := if i = 0 then pickK n (fmTabs.getD 0 []) else pickB n (fmTabs.getD i [])
def fmT (n : Int) : Str := ⟨#[fms n 0, fms n 1, fms n 2, fms n 3, fms n 4, fms n 5, fms n 6, fms n 7, fms n 8, fms n 9]⟩
theorem filemode_C (w : World) (n : Int) (tn : Tok) :
    Says 8 w 81 [.int n tn] [] (fun r tl => (∃ t, r = .str (fmT n) t) ∧ tl = []) := by
  unfold Says
  k_fill
  intro mean mg mb dp un gd cn cs a ccd cl outer A₀ base h₀ L m news s Q E B F X Nn T hk hd hu hs hret
  have N := cb_drop Nn hs
  refine wpAny_call ?_
  k_dflt (refine' enterHL (binds := [(Str.ofString "mode", .int n tn)]) ?k1 ?k2 ?k3 ?k4 ?k5 ?kA ?kF ?kK ?k6 ?k7 ?k8 ?k9 ?kB ?_ ?c2 ?c3 ?c4 ?c5; (case kA => exact rfl); (case kF => exact rfl); (case kK => assumption); (case k1 => k_asm); (case k2 => k_asm); (case k3 => k_asm); (case k4 => exact N); (case k5 => k_asm); (case k6 => k_is); (case k7 => k_is); (case k8 => ktr_room); (case k9 => exact BindsTo.of_eq rfl); (case c5 => decide); (case kB => exact locs rfl); (case c2 => exact rfl); (case c3 => exact rfl); (case c4 => exact rfl); k_whole; intro g' L' h' FG' F' N' B' X' T' K9 e9 A9 E9; clear N; (try dsimp only); (try k_fold))
  repeat ((fail_if_success (with_reducible show wpAny _ _ (call (Value.type "enumerate") _) _ _ _)); (first | (k_unfold; (try dsimp only)) | (k_end; wrow_close) | ((with_reducible show wpAny _ _ (exec (Stmt.For _ _ _ [] _) _) _ _ _); (rename Fr _ _ _ _ => lF'); (with_unfolding_all refine' For_turns lF' ?_; k_whole)) | ((with_reducible show wpAny _ _ (exec _ _) _ _ _); refine absQ ?_; intro Q9 hQ9; walk1) | walk1 | (dsimp only; walk1) | ((with_reducible refine absQ_end (by with_reducible assumption) ?_); (try dsimp only))))
  k_dflt (refine' enum_fm (K := Mine.hd.heap_39 w.params) (fms n) fmTabs ?z0 ?z1 ?z2 ?z3 ?z4 ?z5 ?z6 ?z7 ?z8 ?z9 ?zt ?zf; (case z0 => with_unfolding_all rfl); (case z1 => k_asm); (case z2 => k_asm); (case z3 => k_asm); (case z4 => k_is); (case z5 => exact rfl); (case z6 => exact rfl); (case z8 => exact rfl); (case z9 => exact rfl))
  case z7 => k_dflt (repeat first | exact Tabs.nil | exact Ents.nil | (refine' Tabs.cons ?k ?c ?d ?_ ?_; (case k => k_is); (case c => exact rfl); (case d => exact rfl)) | (refine' Ents.cons ?k ?c ?d ?_; (case k => k_is); (case c => exact rfl); (case d => exact rfl)))
  case zt =>
    intro J I i T lo2 n2 items Tp t oJ oI m' its h tk lI lJ hk2 hc2 hd2 he2 hTp hlen hy h1 h2 F' N' hi
    replace lI := ltN lI
    replace lJ := ltN lJ
    rcases Nat.eq_zero_or_pos i with hi0 | hi0
    · subst hi0
      repeat ((fail_if_success (with_reducible show wpAny _ _ (exec (Stmt.For _ _ _ (_ :: _) _) _) _ _ _)); (first | (k_unfold; (try dsimp only)) | (k_end; wrow_close) | ((with_reducible show wpAny _ _ (exec _ _) _ _ _); refine absQ ?_; intro Q9 hQ9; walk1) | walk1 | (dsimp only; walk1) | ((with_reducible refine absQ_end (by with_reducible assumption) ?_); (try dsimp only))))
      k_dflt (refine' For_else ?g1 ?g2 ?g3 ?g4 ?g5 ?g6 ?g7 ?g8 ?_ ?e1 ?e2 ?e3; (case g1 => with_unfolding_all rfl); (case g2 => k_asm); (case g3 => k_asm); (case g4 => exact rfl); (case g5 => k_asm); (case g6 => exact hk2); (case g7 => exact hc2); (case g8 => exact hd2); (case e1 => exact rfl); (case e2 => exact rfl); (case e3 => decide))
      intro I2 l2
      k_lt l2
      refine else_all (fun b => Builtin.bitAnd n 61440 = b) (pickK n) pickK_t pickK_f (fms n 0) (fun m => m (Str.ofString "mode") = some (.int n tn) ∧ m (Str.ofString "perm") = some (.ref _) ∧ m (Str.ofString "index") = some (.int ((0 : Nat) : Int) t)) ?_ ?_ he2 rfl _ ⟨h1, h2, rfl⟩
      · intro m h tk hI hx F' N'
        rw [open3 hI.1 hI.2.1 hI.2.2] at F'
        (repeat' (first | (k_unfold; (try dsimp only)) | (k_end; wrow_close) | ((with_reducible show wpAny _ _ (call (Value.ref 41) _) _ _ _); k_dflt (refine' Says.use (ifmt_C _ _ _) ?k1 ?k2 ?k3 ?k4 ?k5 ?kK ?kd ?ku ?ks ?_; (case k1 => k_asm); (case k2 => k_asm); (case k3 => k_asm); (case k4 => k_asm); (case k5 => k_asm); (case kK => first | exact rfl | assumption); (case ks => (first | exact List.forall_mem_nil _ | (refine List.forall_mem_cons.mpr ⟨by k_mem, ?_⟩; first | exact List.forall_mem_nil _ | (refine List.forall_mem_cons.mpr ⟨by k_mem, ?_⟩; exact List.forall_mem_nil _)))); (case kd => first | exact lvl (by assumption) (by decide) | decide); (case ku => first | exact lvlU (by assumption) (by decide) | decide); k_whole); intro r9 tl9 h9 tk9 hp9 F9 N9 o9; obtain ⟨⟨t9, e9⟩, e8⟩ := hp9; subst e9 e8; clear o9; (try dsimp only [List.nil_append] at N9); (try k_sweep); (try dsimp only)) | ((with_reducible show wpAny _ _ (call (Value.builtin "list.append") [Value.ref _, _]) _ _ _); k_dflt (refine' append_K ?k1 ?k2 ?k3 ?_ ?z; (case k1 => k_asm); (case k2 => k_asm); (case k3 => k_upd); (case z => first | size_fits | (show List.length _ ≤ sizeLine; rw [sizeLine_eq]; omega)); k_whole); intro h' F' N'; (try k_sweep)) | ((with_reducible show wpAny _ _ (exec _ _) _ _ _); refine absQ ?_; intro Q9 hQ9; walk1) | walk1 | (dsimp only; walk1) | ((with_reducible refine absQ_end (by with_reducible assumption) ?_); (try dsimp only)) | (leave1; walk_say "STEP leave1"; try dsimp only) | fail "no step"))
        exact EPost.intro (o := LCg.lst (its ++ [_])) (by k_asm) (by k_asm) (by rw [← LCg.lst_snoc]; lcg_sub) ⟨_, rfl, hy.snoc ⟨_, congrArg (fun z => Value.str (ch z) _) hx⟩, rfl, rfl⟩
      · intro e o n3 b c tb tc rest m oI2 h tk hk3 hc3 hd3 hI F' N' hp hn
        rw [open3 hI.1 hI.2.1 hI.2.2] at F'
        (repeat' (first | (k_unfold; (try dsimp only)) | (k_end; wrow_close) | ((with_reducible show wpAny _ _ (assign (Expr.Tuple _ _ _) _ (Value.ref _)) _ _ _); k_dflt (refine' unpackK ?F ?N ?X ?k ?c ?d ?k1 ?k2 ?k3 ?_; (case F => k_asm); (case N => k_asm); (case X => k_asm); (case k => with_reducible assumption); (case c => with_reducible assumption); (case d => with_reducible assumption); (case k1 => exact rfl); (case k2 => exact rfl); (case k3 => exact rfl)); intro h' F' N') | ((with_reducible show ElsePost _ _ _ _ _ _ _ _ Flow.brk _); refine ElsePost.brk ?_) | ((with_reducible show ElsePost _ _ _ _ _ _ _ _ Flow.next _); refine ElsePost.next (by k_asm) (by k_asm) ?_) | ((with_reducible show wpAny _ _ (call (Value.ref 41) _) _ _ _); k_dflt (refine' Says.use (ifmt_C _ _ _) ?k1 ?k2 ?k3 ?k4 ?k5 ?kK ?kd ?ku ?ks ?_; (case k1 => k_asm); (case k2 => k_asm); (case k3 => k_asm); (case k4 => k_asm); (case k5 => k_asm); (case kK => first | exact rfl | assumption); (case ks => (first | exact List.forall_mem_nil _ | (refine List.forall_mem_cons.mpr ⟨by k_mem, ?_⟩; first | exact List.forall_mem_nil _ | (refine List.forall_mem_cons.mpr ⟨by k_mem, ?_⟩; exact List.forall_mem_nil _)))); (case kd => first | exact lvl (by assumption) (by decide) | decide); (case ku => first | exact lvlU (by assumption) (by decide) | decide); k_whole); intro r9 tl9 h9 tk9 hp9 F9 N9 o9; obtain ⟨⟨t9, e9⟩, e8⟩ := hp9; subst e9 e8; clear o9; (try dsimp only [List.nil_append] at N9); (try k_sweep); (try dsimp only)) | ((with_reducible show wpAny _ _ (call (Value.builtin "list.append") [Value.ref _, _]) _ _ _); k_dflt (refine' append_K ?k1 ?k2 ?k3 ?_ ?z; (case k1 => k_asm); (case k2 => k_asm); (case k3 => k_upd); (case z => first | size_fits | (show List.length _ ≤ sizeLine; rw [sizeLine_eq]; omega)); k_whole); intro h' F' N'; (try k_sweep)) | ((with_reducible show wpAny _ _ (exec _ _) _ _ _); refine absQ ?_; intro Q9 hQ9; walk1) | walk1 | (dsimp only; walk1) | ((with_reducible refine absQ_end (by with_reducible assumption) ?_); (try dsimp only)) | (leave1; walk_say "STEP leave1"; try dsimp only) | fail "no step"))
        all_goals (first | exact hn (by assumption) _ ⟨rfl, rfl, rfl⟩ | exact EPost.intro (o := LCg.lst (its ++ [_])) (by k_asm) (by k_asm) (by rw [← LCg.lst_snoc]; lcg_sub) ⟨_, rfl, hy.snoc ⟨_, congrArg (fun z => Value.str (ch z) _) (hp (by assumption))⟩, rfl, rfl⟩)

    · repeat ((fail_if_success (with_reducible show wpAny _ _ (exec (Stmt.For _ _ _ (_ :: _) _) _) _ _ _)); (first | (k_unfold; (try dsimp only)) | (k_end; wrow_close) | ((with_reducible show wpAny _ _ (exec _ _) _ _ _); refine absQ ?_; intro Q9 hQ9; walk1) | walk1 | (dsimp only; walk1) | ((with_reducible refine absQ_end (by with_reducible assumption) ?_); (try dsimp only))))
      k_dflt (refine' For_else ?g1 ?g2 ?g3 ?g4 ?g5 ?g6 ?g7 ?g8 ?_ ?e1 ?e2 ?e3; (case g1 => with_unfolding_all rfl); (case g2 => k_asm); (case g3 => k_asm); (case g4 => exact rfl); (case g5 => k_asm); (case g6 => exact hk2); (case g7 => exact hc2); (case g8 => exact hd2); (case e1 => exact rfl); (case e2 => exact rfl); (case e3 => decide))
      intro I2 l2
      k_lt l2
      refine else_all (fun b => Builtin.bitAnd n b = b) (pickB n) pickB_t pickB_f (fms n i) (fun m => m (Str.ofString "mode") = some (.int n tn) ∧ m (Str.ofString "perm") = some (.ref _) ∧ m (Str.ofString "index") = some (.int ((i : Nat) : Int) t)) ?_ ?_ he2 (if_neg (Nat.ne_of_gt hi0)).symm _ ⟨h1, h2, rfl⟩
      · intro m h tk hI hx F' N'
        rw [open3 hI.1 hI.2.1 hI.2.2] at F'
        (repeat' (first | (k_unfold; (try dsimp only)) | (k_end; wrow_close) | ((with_reducible rename (((_ : Nat) : Int) = 0) => hz9); exfalso; omega) | ((with_reducible show wpAny _ _ (call (Value.builtin "list.append") [Value.ref _, _]) _ _ _); k_dflt (refine' append_K ?k1 ?k2 ?k3 ?_ ?z; (case k1 => k_asm); (case k2 => k_asm); (case k3 => k_upd); (case z => first | size_fits | (show List.length _ ≤ sizeLine; rw [sizeLine_eq]; omega)); k_whole); intro h' F' N'; (try k_sweep)) | ((with_reducible show wpAny _ _ (exec _ _) _ _ _); refine absQ ?_; intro Q9 hQ9; walk1) | walk1 | (dsimp only; walk1) | ((with_reducible refine absQ_end (by with_reducible assumption) ?_); (try dsimp only)) | (leave1; walk_say "STEP leave1"; try dsimp only) | fail "no step"))
        exact EPost.intro (o := LCg.lst (its ++ [_])) (by k_asm) (by k_asm) (by rw [← LCg.lst_snoc]; lcg_sub) ⟨_, rfl, hy.snoc ⟨_, congrArg (fun z => Value.str (ch z) _) hx⟩, rfl, rfl⟩
      · intro e o n3 b c tb tc rest m oI2 h tk hk3 hc3 hd3 hI F' N' hp hn
        rw [open3 hI.1 hI.2.1 hI.2.2] at F'
        (repeat' (first | (k_unfold; (try dsimp only)) | (k_end; wrow_close) | ((with_reducible show wpAny _ _ (assign (Expr.Tuple _ _ _) _ (Value.ref _)) _ _ _); k_dflt (refine' unpackK ?F ?N ?X ?k ?c ?d ?k1 ?k2 ?k3 ?_; (case F => k_asm); (case N => k_asm); (case X => k_asm); (case k => with_reducible assumption); (case c => with_reducible assumption); (case d => with_reducible assumption); (case k1 => exact rfl); (case k2 => exact rfl); (case k3 => exact rfl)); intro h' F' N') | ((with_reducible show ElsePost _ _ _ _ _ _ _ _ Flow.brk _); refine ElsePost.brk ?_) | ((with_reducible show ElsePost _ _ _ _ _ _ _ _ Flow.next _); refine ElsePost.next (by k_asm) (by k_asm) ?_) | ((with_reducible rename (((_ : Nat) : Int) = 0) => hz9); exfalso; omega) | ((with_reducible show wpAny _ _ (call (Value.builtin "list.append") [Value.ref _, _]) _ _ _); k_dflt (refine' append_K ?k1 ?k2 ?k3 ?_ ?z; (case k1 => k_asm); (case k2 => k_asm); (case k3 => k_upd); (case z => first | size_fits | (show List.length _ ≤ sizeLine; rw [sizeLine_eq]; omega)); k_whole); intro h' F' N'; (try k_sweep)) | ((with_reducible show wpAny _ _ (exec _ _) _ _ _); refine absQ ?_; intro Q9 hQ9; walk1) | walk1 | (dsimp only; walk1) | ((with_reducible refine absQ_end (by with_reducible assumption) ?_); (try dsimp only)) | (leave1; walk_say "STEP leave1"; try dsimp only) | fail "no step"))
        all_goals (first | exact hn (by assumption) _ ⟨rfl, rfl, rfl⟩ | exact EPost.intro (o := LCg.lst (its ++ [_])) (by k_asm) (by k_asm) (by rw [← LCg.lst_snoc]; lcg_sub) ⟨_, rfl, hy.snoc ⟨_, congrArg (fun z => Value.str (ch z) _) (hp (by assumption))⟩, rfl, rfl⟩)

  case zf =>
    intro m' its h tk hy h1 h2 F' N'
    have hS : SO 10 (fun j => ch (fms n j)) (LCg.lst its) := hy.so
    have h3 := h1
    rw [open3 h1 h2 h3] at F'
    (repeat' (first | (k_unfold; (try dsimp only)) | (k_end; wrow_close) | ((with_reducible show wpAny _ _ (call (Value.builtin "str.join") _) _ _ _); (k_dflt (refine' so_join10 (fms n) ?j1 ?j2 ?j3 ?_; (case j1 => k_asm); (case j2 => k_mem); (case j3 => assumption); k_whole)); intro t9' tk9'; (try dsimp only)) | ((with_reducible show wpAny _ _ (exec _ _) _ _ _); refine absQ ?_; intro Q9 hQ9; walk1) | walk1 | (dsimp only; walk1) | ((with_reducible refine absQ_end (by with_reducible assumption) ?_); (try dsimp only)) | (leave1; walk_say "STEP leave1"; try dsimp only) | fail "no step"))
    exact fin0 Nn hs K9 hret (by assumption) (by assumption) (by assumption) (by assumption) (List.forall_mem_nil _) ⟨⟨_, rfl⟩, rfl⟩
-- G9
def sg (n : Int) (p : Nat) : Nat → Nat := fun j => if j = 0 then fms n 0 else fms n (3 * p + j)
theorem shown_C0 (w : World) (n : Int) (tn tp : Tok) :
    Says 9 w 107 [.int n tn, .int 0 tp] [] (fun r tl => (∃ t, r = .str (rowF (sg n 0)) t) ∧ tl = []) := by
  unfold Says
  k_fill
  intro mean mg mb dp un gd cn cs a ccd cl outer A₀ base h₀ L m news s Q E B F X Nn T hk hd hu hs hret
  have N := cb_drop Nn hs
  refine wpAny_call ?_
  k_dflt (refine' enterHL (binds := [(Str.ofString "one", .int n tn), (Str.ofString "part", .int 0 tp)]) ?k1 ?k2 ?k3 ?k4 ?k5 ?kA ?kF ?kK ?k6 ?k7 ?k8 ?k9 ?kB ?_ ?c2 ?c3 ?c4 ?c5; (case kA => exact rfl); (case kF => exact rfl); (case kK => assumption); (case k1 => k_asm); (case k2 => k_asm); (case k3 => k_asm); (case k4 => exact N); (case k5 => k_asm); (case k6 => k_is); (case k7 => k_is); (case k8 => ktr_room); (case k9 => exact BindsTo.of_eq rfl); (case c5 => decide); (case kB => exact locs rfl); (case c2 => exact rfl); (case c3 => exact rfl); (case c4 => exact rfl); k_whole; intro g' L' h' FG' F' N' B' X' T' K9 e9 A9 E9; clear N; (try dsimp only); (try k_fold))
  (repeat' (first | (k_unfold; (try dsimp only)) | (k_end; wrow_close) | ((with_reducible show wpAny _ _ (subscriptTail _ _ (Value.str _ _) (Value.int _ _)) _ _ _); (k_dflt (refine' sitem ?sh0 ?shz ?shc ?_ ?shs; (case shs => with_unfolding_all rfl); (case sh0 => first | decide | omega); (case shz => exact Nat.le_of_ble_eq_true rfl); (case shc => first | exact rowF_get _ (by assumption) | exact rfl); k_whole)); intro t9' tk9'; (try dsimp only)) | ((with_reducible show wpAny _ _ (call (Value.ref 81) _) _ _ _); k_dflt (refine' Says.use (filemode_C _ _ _) ?k1 ?k2 ?k3 ?k4 ?k5 ?kK ?kd ?ku ?ks ?_; (case k1 => k_asm); (case k2 => k_asm); (case k3 => k_asm); (case k4 => k_asm); (case k5 => k_asm); (case kK => first | exact rfl | assumption); (case ks => (first | exact List.forall_mem_nil _ | (refine List.forall_mem_cons.mpr ⟨by k_mem, ?_⟩; first | exact List.forall_mem_nil _ | (refine List.forall_mem_cons.mpr ⟨by k_mem, ?_⟩; exact List.forall_mem_nil _)))); (case kd => first | exact lvl (by assumption) (by decide) | decide); (case ku => first | exact lvlU (by assumption) (by decide) | decide); k_whole); intro r9 tl9 h9 tk9 hp9 F9 N9 o9; obtain ⟨⟨t9, e9⟩, e8⟩ := hp9; subst e9 e8; clear o9; (try dsimp only [List.nil_append] at N9); (try k_sweep); (try dsimp only)) | ((with_reducible show wpAny _ _ (exec _ _) _ _ _); refine absQ ?_; intro Q9 hQ9; walk1) | walk1 | (dsimp only; walk1) | ((with_reducible refine absQ_end (by with_reducible assumption) ?_); (try dsimp only)) | (leave1; walk_say "STEP leave1"; try dsimp only) | fail "no step"))
  refine fin0 Nn hs K9 hret (by assumption) (by assumption) (by assumption) (by assumption) (List.forall_mem_nil _) ⟨⟨_, congrArg (fun x => Value.str x _) ?_⟩, rfl⟩
  show _ = (⟨#[fms n 0, fms n 1, fms n 2, fms n 3]⟩ : Str)
  unfold fmT
  (generalize fms n 0 = a0; generalize fms n 1 = a1; generalize fms n 2 = a2; generalize fms n 3 = a3; generalize fms n 4 = a4; generalize fms n 5 = a5; generalize fms n 6 = a6; generalize fms n 7 = a7; generalize fms n 8 = a8; generalize fms n 9 = a9)
  kernel_rfl
theorem shown_C1 (w : World) (n : Int) (tn tp : Tok) :
    Says 9 w 107 [.int n tn, .int 1 tp] [] (fun r tl => (∃ t, r = .str (rowF (sg n 1)) t) ∧ tl = []) := by
  unfold Says
  k_fill
  intro mean mg mb dp un gd cn cs a ccd cl outer A₀ base h₀ L m news s Q E B F X Nn T hk hd hu hs hret
  have N := cb_drop Nn hs
  refine wpAny_call ?_
  k_dflt (refine' enterHL (binds := [(Str.ofString "one", .int n tn), (Str.ofString "part", .int 1 tp)]) ?k1 ?k2 ?k3 ?k4 ?k5 ?kA ?kF ?kK ?k6 ?k7 ?k8 ?k9 ?kB ?_ ?c2 ?c3 ?c4 ?c5; (case kA => exact rfl); (case kF => exact rfl); (case kK => assumption); (case k1 => k_asm); (case k2 => k_asm); (case k3 => k_asm); (case k4 => exact N); (case k5 => k_asm); (case k6 => k_is); (case k7 => k_is); (case k8 => ktr_room); (case k9 => exact BindsTo.of_eq rfl); (case c5 => decide); (case kB => exact locs rfl); (case c2 => exact rfl); (case c3 => exact rfl); (case c4 => exact rfl); k_whole; intro g' L' h' FG' F' N' B' X' T' K9 e9 A9 E9; clear N; (try dsimp only); (try k_fold))
  (repeat' (first | (k_unfold; (try dsimp only)) | (k_end; wrow_close) | ((with_reducible show wpAny _ _ (subscriptTail _ _ (Value.str _ _) (Value.int _ _)) _ _ _); (k_dflt (refine' sitem ?sh0 ?shz ?shc ?_ ?shs; (case shs => with_unfolding_all rfl); (case sh0 => first | decide | omega); (case shz => exact Nat.le_of_ble_eq_true rfl); (case shc => first | exact rowF_get _ (by assumption) | exact rfl); k_whole)); intro t9' tk9'; (try dsimp only)) | ((with_reducible show wpAny _ _ (call (Value.ref 81) _) _ _ _); k_dflt (refine' Says.use (filemode_C _ _ _) ?k1 ?k2 ?k3 ?k4 ?k5 ?kK ?kd ?ku ?ks ?_; (case k1 => k_asm); (case k2 => k_asm); (case k3 => k_asm); (case k4 => k_asm); (case k5 => k_asm); (case kK => first | exact rfl | assumption); (case ks => (first | exact List.forall_mem_nil _ | (refine List.forall_mem_cons.mpr ⟨by k_mem, ?_⟩; first | exact List.forall_mem_nil _ | (refine List.forall_mem_cons.mpr ⟨by k_mem, ?_⟩; exact List.forall_mem_nil _)))); (case kd => first | exact lvl (by assumption) (by decide) | decide); (case ku => first | exact lvlU (by assumption) (by decide) | decide); k_whole); intro r9 tl9 h9 tk9 hp9 F9 N9 o9; obtain ⟨⟨t9, e9⟩, e8⟩ := hp9; subst e9 e8; clear o9; (try dsimp only [List.nil_append] at N9); (try k_sweep); (try dsimp only)) | ((with_reducible show wpAny _ _ (exec _ _) _ _ _); refine absQ ?_; intro Q9 hQ9; walk1) | walk1 | (dsimp only; walk1) | ((with_reducible refine absQ_end (by with_reducible assumption) ?_); (try dsimp only)) | (leave1; walk_say "STEP leave1"; try dsimp only) | fail "no step"))
  refine fin0 Nn hs K9 hret (by assumption) (by assumption) (by assumption) (by assumption) (List.forall_mem_nil _) ⟨⟨_, congrArg (fun x => Value.str x _) ?_⟩, rfl⟩
  show _ = (⟨#[fms n 0, fms n 4, fms n 5, fms n 6]⟩ : Str)
  unfold fmT
  (generalize fms n 0 = a0; generalize fms n 1 = a1; generalize fms n 2 = a2; generalize fms n 3 = a3; generalize fms n 4 = a4; generalize fms n 5 = a5; generalize fms n 6 = a6; generalize fms n 7 = a7; generalize fms n 8 = a8; generalize fms n 9 = a9)
  kernel_rfl
theorem shown_C2 (w : World) (n : Int) (tn tp : Tok) :
    Says 9 w 107 [.int n tn, .int 2 tp] [] (fun r tl => (∃ t, r = .str (rowF (sg n 2)) t) ∧ tl = []) := by
  unfold Says
  k_fill
  intro mean mg mb dp un gd cn cs a ccd cl outer A₀ base h₀ L m news s Q E B F X Nn T hk hd hu hs hret
  have N := cb_drop Nn hs
  refine wpAny_call ?_
  k_dflt (refine' enterHL (binds := [(Str.ofString "one", .int n tn), (Str.ofString "part", .int 2 tp)]) ?k1 ?k2 ?k3 ?k4 ?k5 ?kA ?kF ?kK ?k6 ?k7 ?k8 ?k9 ?kB ?_ ?c2 ?c3 ?c4 ?c5; (case kA => exact rfl); (case kF => exact rfl); (case kK => assumption); (case k1 => k_asm); (case k2 => k_asm); (case k3 => k_asm); (case k4 => exact N); (case k5 => k_asm); (case k6 => k_is); (case k7 => k_is); (case k8 => ktr_room); (case k9 => exact BindsTo.of_eq rfl); (case c5 => decide); (case kB => exact locs rfl); (case c2 => exact rfl); (case c3 => exact rfl); (case c4 => exact rfl); k_whole; intro g' L' h' FG' F' N' B' X' T' K9 e9 A9 E9; clear N; (try dsimp only); (try k_fold))
  (repeat' (first | (k_unfold; (try dsimp only)) | (k_end; wrow_close) | ((with_reducible show wpAny _ _ (subscriptTail _ _ (Value.str _ _) (Value.int _ _)) _ _ _); (k_dflt (refine' sitem ?sh0 ?shz ?shc ?_ ?shs; (case shs => with_unfolding_all rfl); (case sh0 => first | decide | omega); (case shz => exact Nat.le_of_ble_eq_true rfl); (case shc => first | exact rowF_get _ (by assumption) | exact rfl); k_whole)); intro t9' tk9'; (try dsimp only)) | ((with_reducible show wpAny _ _ (call (Value.ref 81) _) _ _ _); k_dflt (refine' Says.use (filemode_C _ _ _) ?k1 ?k2 ?k3 ?k4 ?k5 ?kK ?kd ?ku ?ks ?_; (case k1 => k_asm); (case k2 => k_asm); (case k3 => k_asm); (case k4 => k_asm); (case k5 => k_asm); (case kK => first | exact rfl | assumption); (case ks => (first | exact List.forall_mem_nil _ | (refine List.forall_mem_cons.mpr ⟨by k_mem, ?_⟩; first | exact List.forall_mem_nil _ | (refine List.forall_mem_cons.mpr ⟨by k_mem, ?_⟩; exact List.forall_mem_nil _)))); (case kd => first | exact lvl (by assumption) (by decide) | decide); (case ku => first | exact lvlU (by assumption) (by decide) | decide); k_whole); intro r9 tl9 h9 tk9 hp9 F9 N9 o9; obtain ⟨⟨t9, e9⟩, e8⟩ := hp9; subst e9 e8; clear o9; (try dsimp only [List.nil_append] at N9); (try k_sweep); (try dsimp only)) | ((with_reducible show wpAny _ _ (exec _ _) _ _ _); refine absQ ?_; intro Q9 hQ9; walk1) | walk1 | (dsimp only; walk1) | ((with_reducible refine absQ_end (by with_reducible assumption) ?_); (try dsimp only)) | (leave1; walk_say "STEP leave1"; try dsimp only) | fail "no step"))
  refine fin0 Nn hs K9 hret (by assumption) (by assumption) (by assumption) (by assumption) (List.forall_mem_nil _) ⟨⟨_, congrArg (fun x => Value.str x _) ?_⟩, rfl⟩
  show _ = (⟨#[fms n 0, fms n 7, fms n 8, fms n 9]⟩ : Str)
  unfold fmT
  (generalize fms n 0 = a0; generalize fms n 1 = a1; generalize fms n 2 = a2; generalize fms n 3 = a3; generalize fms n 4 = a4; generalize fms n 5 = a5; generalize fms n 6 = a6; generalize fms n 7 = a7; generalize fms n 8 = a8; generalize fms n 9 = a9)
  kernel_rfl
-- P1
theorem and_one (N k : Nat) : N &&& 2 ^ k = 2 ^ k ↔ N.testBit k = true := by
  constructor
  · intro h
    have ha := congrArg (fun x => x.testBit k) h
    simpa only [Nat.testBit_and, Nat.testBit_two_pow_self, Bool.and_true] using ha
  · intro h
    apply Nat.eq_of_testBit_eq
    intro i
    rw [Nat.testBit_and, Nat.testBit_two_pow]
    by_cases e : k = i
    · subst e; rw [h]; rfl
    · rw [decide_eq_false e, Bool.and_false]
theorem band_bit {n : Int} (h0 : 0 ≤ n) (k : Nat) {b : Int} (hb : b = ((2 ^ k : Nat) : Int)) : Builtin.bitAnd n b = b ↔ n / b % 2 = 1 := by
  subst hb
  rw [bitAnd_pp h0 (Int.natCast_nonneg _)]
  obtain ⟨N, rfl⟩ := Int.eq_ofNat_of_zero_le h0
  rw [Int.toNat_natCast, Int.toNat_natCast]
  have e : N.testBit k = decide (N / 2 ^ k % 2 = 1) := Nat.testBit_eq_decide_div_mod_eq
  have c : ((N : Int) / ((2 ^ k : Nat) : Int) % 2 = 1) ↔ (N / 2 ^ k % 2 = 1) := by
    rw [← Int.natCast_ediv]
    omega
  rw [c, Int.ofNat_inj, and_one, e, decide_eq_true_eq]
theorem and_two (N a b : Nat) : N &&& (2 ^ a ||| 2 ^ b) = 2 ^ a ||| 2 ^ b ↔ N &&& 2 ^ a = 2 ^ a ∧ N &&& 2 ^ b = 2 ^ b := by
  have one := and_one N
  rw [one, one]
  constructor
  · intro h
    have ha := congrArg (fun x => x.testBit a) h
    have hb := congrArg (fun x => x.testBit b) h
    simp only [Nat.testBit_and, Nat.testBit_or, Nat.testBit_two_pow_self, Bool.true_or, Bool.or_true, Bool.and_true] at ha hb
    exact ⟨ha, hb⟩
  · rintro ⟨ha, hb⟩
    rw [Nat.and_or_distrib_left, (one a).mpr ha, (one b).mpr hb]
theorem band_two {n : Int} (h0 : 0 ≤ n) (i j : Nat) {a b c : Int} (ha : a = ((2 ^ i : Nat) : Int)) (hb : b = ((2 ^ j : Nat) : Int)) (hc : c = ((2 ^ i ||| 2 ^ j : Nat) : Int)) : Builtin.bitAnd n c = c ↔ n / a % 2 = 1 ∧ n / b % 2 = 1 := by
  rw [← band_bit h0 i ha, ← band_bit h0 j hb]
  subst ha hb hc
  rw [bitAnd_pp h0 (Int.natCast_nonneg _), bitAnd_pp h0 (Int.natCast_nonneg _), bitAnd_pp h0 (Int.natCast_nonneg _)]
  simp only [Int.toNat_natCast, Int.ofNat_inj]
  have := and_two n.toNat i j
  exact_mod_cast this
theorem pick1 {n x b : Int} {c : Nat} {t : Str} (ht : t.cps = #[45, c]) (hx : x = 0 ∨ x = 1) (hb : Builtin.bitAnd n b = b ↔ x = 1) : t.cps.getD x.toNat 0 = pickB n [(b, c)] := by
  rw [ht]
  rcases hx with rfl | rfl
  · rw [pickB_f (by rw [hb]; decide)]; rfl
  · rw [pickB_t (by rw [hb])]; rfl
theorem pick3 {n x y a b d : Int} {c1 c2 c3 : Nat} {t : Str} (ht : t.cps = #[45, c1, c2, c3]) (hx : x = 0 ∨ x = 1) (hy : y = 0 ∨ y = 1) (ha : Builtin.bitAnd n a = a ↔ x = 1) (hb : Builtin.bitAnd n b = b ↔ y = 1) (hd : Builtin.bitAnd n d = d ↔ x = 1 ∧ y = 1) :
    t.cps.getD (x + 2 * y).toNat 0 = pickB n [(d, c3), (b, c2), (a, c1)] := by
  rw [ht]
  rcases hx with rfl | rfl <;> rcases hy with rfl | rfl
  · rw [pickB_f (by rw [hd]; decide), pickB_f (by rw [hb]; decide), pickB_f (by rw [ha]; decide)]; rfl
  · rw [pickB_f (by rw [hd]; decide), pickB_t (by rw [hb])]; rfl
  · rw [pickB_f (by rw [hd]; decide), pickB_f (by rw [hb]; decide), pickB_t (by rw [ha])]; rfl
  · rw [pickB_t (by rw [hd]; decide)]; rfl
theorem kind_is {n : Int} (h0 : 0 ≤ n) (h1 : n < 65536) : Builtin.bitAnd n 61440 = n / 4096 * 4096 := by
  rw [bitAnd_pp h0 (by decide)]
  obtain ⟨N, rfl⟩ := Int.eq_ofNat_of_zero_le h0
  have hN : N < 65536 := by omega
  rw [Int.toNat_natCast, show Int.toNat 61440 = 61440 from rfl]
  have e : N &&& 61440 = N / 4096 * 4096 := by
    apply Nat.eq_of_testBit_eq
    intro i
    rw [Nat.testBit_and, show (61440 : Nat) = 15 * 2 ^ 12 from rfl, show (4096 : Nat) = 2 ^ 12 from rfl, Nat.testBit_mul_two_pow, Nat.testBit_mul_two_pow, Nat.testBit_div_two_pow]
    by_cases h : 12 ≤ i
    · rw [show i - 12 + 12 = i by omega]
      simp only [h, decide_true, Bool.true_and]
      by_cases h16 : i < 16
      · have : Nat.testBit 15 (i - 12) = true := by
          have : i = 12 ∨ i = 13 ∨ i = 14 ∨ i = 15 := by omega
          rcases this with rfl | rfl | rfl | rfl <;> decide
        rw [this, Bool.and_true]
      · have : N.testBit i = false := Nat.testBit_lt_two_pow (Nat.lt_of_lt_of_le hN (Nat.pow_le_pow_right (n := 2) (by decide) (show 16 ≤ i by omega)))
        rw [this, Bool.false_and]
    · simp [h]
  rw [e]
  omega
theorem pickK_is {n : Int} (h0 : 0 ≤ n) (h1 : n < 65536) : (Str.ofString "?pc?d?b?-?l?s???").cps.getD (n / 4096).toNat 0 = pickK n [(40960, 108), (49152, 115), (32768, 45), (24576, 98), (16384, 100), (8192, 99), (4096, 112)] := by
  have e := kind_is h0 h1
  simp only [pickK, e]
  generalize hq : n / 4096 = q
  have hq0 : 0 ≤ q := by omega
  have hq1 : q < 16 := by omega
  have : q = 0 ∨ q = 1 ∨ q = 2 ∨ q = 3 ∨ q = 4 ∨ q = 5 ∨ q = 6 ∨ q = 7 ∨ q = 8 ∨ q = 9 ∨ q = 10 ∨ q = 11 ∨ q = 12 ∨ q = 13 ∨ q = 14 ∨ q = 15 := by omega
  clear hq hq0 hq1 e h0 h1
  rcases this with rfl | rfl | rfl | rfl | rfl | rfl | rfl | rfl | rfl | rfl | rfl | rfl | rfl | rfl | rfl | rfl <;> decide
-- G7
theorem plain_is0 {n : Int} (h0 : 0 ≤ n) (h1 : n < 65536) : ch ((Str.ofString "?pc?d?b?-?l?s???").cps.getD (n.fdiv (2 ^ Int.toNat 12)).toNat 0) ++ ch ((Str.ofString "-r").cps.getD (Builtin.bitAnd ((n.fdiv (2 ^ (6 - 3 * 0 : Int).toNat)).fdiv (2 ^ Int.toNat 2)) 1).toNat 0) ++ ch ((Str.ofString "-w").cps.getD (Builtin.bitAnd ((n.fdiv (2 ^ (6 - 3 * 0 : Int).toNat)).fdiv (2 ^ Int.toNat 1)) 1).toNat 0) ++ ch ((Str.ofString "-xSs").cps.getD (Builtin.bitAnd (n.fdiv (2 ^ (6 - 3 * 0 : Int).toNat)) 1 + 2 * Builtin.bitAnd (n.fdiv (2 ^ (11 - 0 : Int).toNat)) 1).toNat 0) = rowF (sg n 0) := by
  have e12 : n.fdiv (2 ^ Int.toNat 12) = n / 4096 := Int.fdiv_eq_ediv_of_nonneg _ (by decide)
  have eA : n.fdiv (2 ^ (6 - 3 * 0 : Int).toNat) = n / 64 := Int.fdiv_eq_ediv_of_nonneg _ (by decide)
  have eB : n.fdiv (2 ^ (11 - 0 : Int).toNat) = n / 2048 := Int.fdiv_eq_ediv_of_nonneg _ (by decide)
  have e2 : (n / 64).fdiv (2 ^ Int.toNat 2) = n / 256 := by
    rw [Int.fdiv_eq_ediv_of_nonneg _ (by decide), show (2 : Int) ^ Int.toNat 2 = 4 from rfl]; omega
  have e1 : (n / 64).fdiv (2 ^ Int.toNat 1) = n / 128 := by
    rw [Int.fdiv_eq_ediv_of_nonneg _ (by decide), show (2 : Int) ^ Int.toNat 1 = 2 from rfl]; omega
  rw [e12, eA, eB, e2, e1, bitAnd_m1, bitAnd_m1, bitAnd_m1, bitAnd_m1, pickK_is h0 h1,
    pick1 (t := Str.ofString "-r") (n := n) (b := 256) (c := 114) rfl (by omega) (band_bit h0 8 rfl),
    pick1 (t := Str.ofString "-w") (n := n) (b := 128) (c := 119) rfl (by omega) (band_bit h0 7 rfl),
    pick3 (t := Str.ofString "-xSs") (n := n) (a := 64) (b := 2048) (d := 2112) (c1 := 120) (c2 := 83) (c3 := 115) rfl (by omega) (by omega) (band_bit h0 6 rfl) (band_bit h0 11 rfl) (band_two h0 6 11 rfl rfl rfl)]
  rfl
theorem plain_C0 (w : World) (n : Int) (tx ty : Tok) (h0 : 0 ≤ n) (h1 : n < 65536) :
    Says 9 w 114 [.int n tx, .int 0 ty] [] (fun r tl => (∃ t, r = .str (rowF (sg n 0)) t) ∧ tl = []) := by
  unfold Says
  k_fill
  intro mean mg mb dp un gd cn cs a ccd cl outer A₀ base h₀ L m news s Q E B F X Nn T hk hd hu hs hret
  have N := cb_drop Nn hs
  refine wpAny_call ?_
  k_dflt (refine' enterH ?k1 ?k2 ?k3 ?k4 ?k5 ?kA ?kF ?kK ?k6 ?k7 ?k8 ?k9 ?kB ?_ ?c2 ?c3 ?c4 ?c5; (case kA => exact rfl); (case kF => exact rfl); (case kK => assumption); (case k1 => k_asm); (case k2 => k_asm); (case k3 => k_asm); (case k4 => exact N); (case k5 => k_asm); (case k6 => k_is); (case k7 => k_is); (case k8 => ktr_room); (case k9 => exact BindsTo.of_eq rfl); (case c5 => decide); (case kB => exact locs rfl); (case c2 => exact rfl); (case c3 => exact rfl); (case c4 => exact rfl); k_whole; intro g' L' h' FG' F' N' B' X' T' K9; clear N; (try dsimp only); (try k_fold))
  (repeat' (first | (k_unfold; (try dsimp only)) | (k_end; wrow_close) | ((k_here; (with_reducible show wpAny _ _ (subscriptTail _ _ (Value.str _ _) (Value.int _ _)) _ _ _); (k_dflt (refine' sitemS ?sb ?sn ?sz ?_ ?shs; (case shs => with_unfolding_all rfl); (case sb => first | exact and1 _ | exact and1b _ _ | exact shr12 (by assumption) (by assumption)); (case sn => decide); (case sz => decide); k_whole)); intro t9' tk9'; (try dsimp only))) | walk1 | (dsimp only; walk1) | (leave1; walk_say "STEP leave1"; try dsimp only) | fail "no step"))
  all_goals (refine fin0 Nn hs K9 hret (by assumption) (by assumption) (by assumption) (by assumption) (List.forall_mem_nil _) ⟨⟨_, congrArg (fun x => Value.str x _) (plain_is0 h0 h1)⟩, rfl⟩)
theorem plain_is1 {n : Int} (h0 : 0 ≤ n) (h1 : n < 65536) : ch ((Str.ofString "?pc?d?b?-?l?s???").cps.getD (n.fdiv (2 ^ Int.toNat 12)).toNat 0) ++ ch ((Str.ofString "-r").cps.getD (Builtin.bitAnd ((n.fdiv (2 ^ (6 - 3 * 1 : Int).toNat)).fdiv (2 ^ Int.toNat 2)) 1).toNat 0) ++ ch ((Str.ofString "-w").cps.getD (Builtin.bitAnd ((n.fdiv (2 ^ (6 - 3 * 1 : Int).toNat)).fdiv (2 ^ Int.toNat 1)) 1).toNat 0) ++ ch ((Str.ofString "-xSs").cps.getD (Builtin.bitAnd (n.fdiv (2 ^ (6 - 3 * 1 : Int).toNat)) 1 + 2 * Builtin.bitAnd (n.fdiv (2 ^ (11 - 1 : Int).toNat)) 1).toNat 0) = rowF (sg n 1) := by
  have e12 : n.fdiv (2 ^ Int.toNat 12) = n / 4096 := Int.fdiv_eq_ediv_of_nonneg _ (by decide)
  have eA : n.fdiv (2 ^ (6 - 3 * 1 : Int).toNat) = n / 8 := Int.fdiv_eq_ediv_of_nonneg _ (by decide)
  have eB : n.fdiv (2 ^ (11 - 1 : Int).toNat) = n / 1024 := Int.fdiv_eq_ediv_of_nonneg _ (by decide)
  have e2 : (n / 8).fdiv (2 ^ Int.toNat 2) = n / 32 := by
    rw [Int.fdiv_eq_ediv_of_nonneg _ (by decide), show (2 : Int) ^ Int.toNat 2 = 4 from rfl]; omega
  have e1 : (n / 8).fdiv (2 ^ Int.toNat 1) = n / 16 := by
    rw [Int.fdiv_eq_ediv_of_nonneg _ (by decide), show (2 : Int) ^ Int.toNat 1 = 2 from rfl]; omega
  rw [e12, eA, eB, e2, e1, bitAnd_m1, bitAnd_m1, bitAnd_m1, bitAnd_m1, pickK_is h0 h1,
    pick1 (t := Str.ofString "-r") (n := n) (b := 32) (c := 114) rfl (by omega) (band_bit h0 5 rfl),
    pick1 (t := Str.ofString "-w") (n := n) (b := 16) (c := 119) rfl (by omega) (band_bit h0 4 rfl),
    pick3 (t := Str.ofString "-xSs") (n := n) (a := 8) (b := 1024) (d := 1032) (c1 := 120) (c2 := 83) (c3 := 115) rfl (by omega) (by omega) (band_bit h0 3 rfl) (band_bit h0 10 rfl) (band_two h0 3 10 rfl rfl rfl)]
  rfl
theorem plain_C1 (w : World) (n : Int) (tx ty : Tok) (h0 : 0 ≤ n) (h1 : n < 65536) :
    Says 9 w 114 [.int n tx, .int 1 ty] [] (fun r tl => (∃ t, r = .str (rowF (sg n 1)) t) ∧ tl = []) := by
  unfold Says
  k_fill
  intro mean mg mb dp un gd cn cs a ccd cl outer A₀ base h₀ L m news s Q E B F X Nn T hk hd hu hs hret
  have N := cb_drop Nn hs
  refine wpAny_call ?_
  k_dflt (refine' enterH ?k1 ?k2 ?k3 ?k4 ?k5 ?kA ?kF ?kK ?k6 ?k7 ?k8 ?k9 ?kB ?_ ?c2 ?c3 ?c4 ?c5; (case kA => exact rfl); (case kF => exact rfl); (case kK => assumption); (case k1 => k_asm); (case k2 => k_asm); (case k3 => k_asm); (case k4 => exact N); (case k5 => k_asm); (case k6 => k_is); (case k7 => k_is); (case k8 => ktr_room); (case k9 => exact BindsTo.of_eq rfl); (case c5 => decide); (case kB => exact locs rfl); (case c2 => exact rfl); (case c3 => exact rfl); (case c4 => exact rfl); k_whole; intro g' L' h' FG' F' N' B' X' T' K9; clear N; (try dsimp only); (try k_fold))
  (repeat' (first | (k_unfold; (try dsimp only)) | (k_end; wrow_close) | ((k_here; (with_reducible show wpAny _ _ (subscriptTail _ _ (Value.str _ _) (Value.int _ _)) _ _ _); (k_dflt (refine' sitemS ?sb ?sn ?sz ?_ ?shs; (case shs => with_unfolding_all rfl); (case sb => first | exact and1 _ | exact and1b _ _ | exact shr12 (by assumption) (by assumption)); (case sn => decide); (case sz => decide); k_whole)); intro t9' tk9'; (try dsimp only))) | walk1 | (dsimp only; walk1) | (leave1; walk_say "STEP leave1"; try dsimp only) | fail "no step"))
  all_goals (refine fin0 Nn hs K9 hret (by assumption) (by assumption) (by assumption) (by assumption) (List.forall_mem_nil _) ⟨⟨_, congrArg (fun x => Value.str x _) (plain_is1 h0 h1)⟩, rfl⟩)
theorem plain_is2 {n : Int} (h0 : 0 ≤ n) (h1 : n < 65536) : ch ((Str.ofString "?pc?d?b?-?l?s???").cps.getD (n.fdiv (2 ^ Int.toNat 12)).toNat 0) ++ ch ((Str.ofString "-r").cps.getD (Builtin.bitAnd ((n.fdiv (2 ^ (6 - 3 * 2 : Int).toNat)).fdiv (2 ^ Int.toNat 2)) 1).toNat 0) ++ ch ((Str.ofString "-w").cps.getD (Builtin.bitAnd ((n.fdiv (2 ^ (6 - 3 * 2 : Int).toNat)).fdiv (2 ^ Int.toNat 1)) 1).toNat 0) ++ ch ((Str.ofString "-xTt").cps.getD (Builtin.bitAnd (n.fdiv (2 ^ (6 - 3 * 2 : Int).toNat)) 1 + 2 * Builtin.bitAnd (n.fdiv (2 ^ (11 - 2 : Int).toNat)) 1).toNat 0) = rowF (sg n 2) := by
  have e12 : n.fdiv (2 ^ Int.toNat 12) = n / 4096 := Int.fdiv_eq_ediv_of_nonneg _ (by decide)
  have eA : n.fdiv (2 ^ (6 - 3 * 2 : Int).toNat) = n / 1 := Int.fdiv_eq_ediv_of_nonneg _ (by decide)
  have eB : n.fdiv (2 ^ (11 - 2 : Int).toNat) = n / 512 := Int.fdiv_eq_ediv_of_nonneg _ (by decide)
  have e2 : (n / 1).fdiv (2 ^ Int.toNat 2) = n / 4 := by
    rw [Int.fdiv_eq_ediv_of_nonneg _ (by decide), show (2 : Int) ^ Int.toNat 2 = 4 from rfl]; omega
  have e1 : (n / 1).fdiv (2 ^ Int.toNat 1) = n / 2 := by
    rw [Int.fdiv_eq_ediv_of_nonneg _ (by decide), show (2 : Int) ^ Int.toNat 1 = 2 from rfl]; omega
  rw [e12, eA, eB, e2, e1, bitAnd_m1, bitAnd_m1, bitAnd_m1, bitAnd_m1, pickK_is h0 h1,
    pick1 (t := Str.ofString "-r") (n := n) (b := 4) (c := 114) rfl (by omega) (band_bit h0 2 rfl),
    pick1 (t := Str.ofString "-w") (n := n) (b := 2) (c := 119) rfl (by omega) (band_bit h0 1 rfl),
    pick3 (t := Str.ofString "-xTt") (n := n) (a := 1) (b := 512) (d := 513) (c1 := 120) (c2 := 84) (c3 := 116) rfl (by omega) (by omega) (band_bit h0 0 rfl) (band_bit h0 9 rfl) (band_two h0 0 9 rfl rfl rfl)]
  rfl
theorem plain_C2 (w : World) (n : Int) (tx ty : Tok) (h0 : 0 ≤ n) (h1 : n < 65536) :
    Says 9 w 114 [.int n tx, .int 2 ty] [] (fun r tl => (∃ t, r = .str (rowF (sg n 2)) t) ∧ tl = []) := by
  unfold Says
  k_fill
  intro mean mg mb dp un gd cn cs a ccd cl outer A₀ base h₀ L m news s Q E B F X Nn T hk hd hu hs hret
  have N := cb_drop Nn hs
  refine wpAny_call ?_
  k_dflt (refine' enterH ?k1 ?k2 ?k3 ?k4 ?k5 ?kA ?kF ?kK ?k6 ?k7 ?k8 ?k9 ?kB ?_ ?c2 ?c3 ?c4 ?c5; (case kA => exact rfl); (case kF => exact rfl); (case kK => assumption); (case k1 => k_asm); (case k2 => k_asm); (case k3 => k_asm); (case k4 => exact N); (case k5 => k_asm); (case k6 => k_is); (case k7 => k_is); (case k8 => ktr_room); (case k9 => exact BindsTo.of_eq rfl); (case c5 => decide); (case kB => exact locs rfl); (case c2 => exact rfl); (case c3 => exact rfl); (case c4 => exact rfl); k_whole; intro g' L' h' FG' F' N' B' X' T' K9; clear N; (try dsimp only); (try k_fold))
  (repeat' (first | (k_unfold; (try dsimp only)) | (k_end; wrow_close) | ((k_here; (with_reducible show wpAny _ _ (subscriptTail _ _ (Value.str _ _) (Value.int _ _)) _ _ _); (k_dflt (refine' sitemS ?sb ?sn ?sz ?_ ?shs; (case shs => with_unfolding_all rfl); (case sb => first | exact and1 _ | exact and1b _ _ | exact shr12 (by assumption) (by assumption)); (case sn => decide); (case sz => decide); k_whole)); intro t9' tk9'; (try dsimp only))) | walk1 | (dsimp only; walk1) | (leave1; walk_say "STEP leave1"; try dsimp only) | fail "no step"))
  all_goals (refine fin0 Nn hs K9 hret (by assumption) (by assumption) (by assumption) (by assumption) (List.forall_mem_nil _) ⟨⟨_, congrArg (fun x => Value.str x _) (plain_is2 h0 h1)⟩, rfl⟩)
-- G100
theorem files_S (w : World) (sc : Addr) (vs : List Value) (ns : List Int) (hI : IntsAre vs ns) (hn : ns.length ≤ 63) : SaysP (fun h => h.IsList sc vs.toArray) 9 w 100 [.ref sc] [] (fun r tl => ∃ D o n, r = .ref D ∧ tl = [(D, o)] ∧ IO 4 n o ∧ ∀ i, Bd (n i)) := by
  unfold SaysP
  k_fill
  intro mean mg mb dp un gd cn cs a ccd cl outer A₀ base h₀ L m news s Q E B F X Nn T hk hd hu hs hpre hret
  have N := cb_drop Nn hs
  refine wpAny_call ?_
  have hsl := hpre
  have hlen := hI.length
  k_dflt (refine' enterHL (binds := [(Str.ofString "script", .ref sc)]) ?k1 ?k2 ?k3 ?k4 ?k5 ?kA ?kF ?kK ?k6 ?k7 ?k8 ?k9 ?kB ?_ ?c2 ?c3 ?c4 ?c5; (case kA => exact rfl); (case kF => exact rfl); (case kK => assumption); (case k1 => k_asm); (case k2 => k_asm); (case k3 => k_asm); (case k4 => exact N); (case k5 => k_asm); (case k6 => k_is); (case k7 => k_is); (case k8 => ktr_room); (case k9 => exact BindsTo.of_eq rfl); (case c5 => decide); (case kB => exact locs rfl); (case c2 => exact rfl); (case c3 => exact rfl); (case c4 => exact rfl); k_whole; intro g' L' h' FG' F' N' B' X' T' K9 e9 A9 E9; clear N; (try dsimp only); (try k_fold))
  have hls : g'.IsList sc vs.toArray := let ⟨o, e, r⟩ := hpre; ⟨o, K9 _ _ (F.keep _ _ e) (fun q => nomatch q), r⟩
  repeat ((fail_if_success (with_reducible show LCg.CompSrc _ _ _ _ _ _ _ _ _ _ _ _ _ _)); (first | (k_unfold; (try dsimp only)) | (k_end; wrow_close) | ((with_reducible show wpAny _ _ (exec (Stmt.Assign [_] (Expr.ListComp _ _ _ _) _) _) _ _ _); k_dflt (refine LCg.Assign_ListComp_U (F₀ := by k_asm) (by rfl) (by with_unfolding_all rfl) (by rfl) (by decide) (by rfl) (by decide) (by rfl) (by rfl) (by rfl) ?_)) | ((with_reducible show wpAny _ _ (subscriptTail _ (Expr.Slice none (some _) none _) (Value.ref _) (Value.ref _)) _ _ _); k_dflt (refine' take4 ?s1 ?s2 ?s3 ?s4 ?_ ?s7 ?s8; (case s1 => k_asm); (case s2 => k_asm); (case s3 => kmk_list); (case s4 => first | omega | (rw [List.length_append]; show _ + 4 ≤ _; omega)); (case s7 => with_unfolding_all rfl); (case s8 => kmk_pure)); intro D' h' F' N' l1; (try k_lt l1)) | ((with_reducible show wpAny _ _ (exec _ _) _ _ _); refine absQ ?_; intro Q9 hQ9; walk1) | walk1 | (dsimp only; walk1) | ((with_reducible refine absQ_end (by with_reducible assumption) ?_); (try dsimp only))))
  refine' so_src (n := min 4 vs.length) (V := fun i t => .int (ns.getD i 0) t) (fun i y => ∃ t, y = .int (Int.fmod (ns.getD i 0) 65536) t) ?a0 ?a1 ?a2 ?a3 ⟨vs.take 4, 0, rfl, (vv_ints hI).take⟩ ?a5 ?ct ?cf
  case a0 => with_unfolding_all rfl
  case a1 => k_asm
  case a2 => k_asm
  case a3 => k_mem
  case a5 => omega
  case ct =>
    intro g9 i t I oI C oC D m2 h8 tk8 E8 ys8 hi hN8 hx F8 N8
    (repeat' (first | (k_unfold; (try dsimp only)) | (k_end; wrow_close) | ((with_reducible show wpAny _ _ (exec _ _) _ _ _); refine absQ ?_; intro Q9 hQ9; walk1) | walk1 | (dsimp only; walk1) | ((with_reducible refine absQ_end (by with_reducible assumption) ?_); (try dsimp only)) | (leave1; walk_say "STEP leave1"; try dsimp only) | fail "no step"))
    exact CellPost.intro (by k_asm) N8 (fun _ q => q) ⟨_, rfl⟩
  case cf =>
    intro g9 ys hys
    have hB := bl_ys hys (fun i => bd_fmod _)
    have hl4 : ys.length ≤ 4 := hys.length ▸ Nat.min_le_left _ _
    clear hys
    repeat ((fail_if_success (with_reducible show wpAny _ _ (call (Value.builtin "list.extend") _) _ _ _)); (first | (k_unfold; (try dsimp only)) | (k_end; wrow_close) | ((with_reducible show LCg.FinA _ _ _ _ _ _ _ _); (unfold LCg.FinA); intro D' h' tk' F' N' o1'; (try dsimp only [LCg.Off1] at o1'); (repeat ((with_reducible rename _ ∧ _ => hA9); (have hA1 := And.left hA9); (have hA2 := And.right hA9); clear hA9))) | ((with_reducible show wpAny _ _ (exec _ _) _ _ _); refine absQ ?_; intro Q9 hQ9; walk1) | walk1 | (dsimp only; walk1) | ((with_reducible refine absQ_end (by with_reducible assumption) ?_); (try dsimp only))))
    k_dflt (refine' ext_lit ?e1 ?e2 ?e3 hl4 ?e4 ?e5 ?_; (case e1 => k_asm); (case e2 => k_asm); (case e3 => k_mem); (case e4 => exact rfl); (case e5 => k_upd))
    intro h9 F9 N9
    (repeat' (first | (k_unfold; (try dsimp only)) | (k_end; wrow_close) | ((with_reducible show wpAny _ _ (subscriptTail _ (Expr.Slice none (some _) none _) (Value.ref _) (Value.ref _)) _ _ _); k_dflt (refine' take4 ?s1 ?s2 ?s3 ?s4 ?_ ?s7 ?s8; (case s1 => k_asm); (case s2 => k_asm); (case s3 => kmk_list); (case s4 => first | omega | (rw [List.length_append]; show _ + 4 ≤ _; omega)); (case s7 => with_unfolding_all rfl); (case s8 => kmk_pure)); intro D' h' F' N' l1; (try k_lt l1)) | ((with_reducible show wpAny _ _ (exec _ _) _ _ _); refine absQ ?_; intro Q9 hQ9; walk1) | walk1 | (dsimp only; walk1) | ((with_reducible refine absQ_end (by with_reducible assumption) ?_); (try dsimp only)) | (leave1; walk_say "STEP leave1"; try dsimp only) | fail "no step"))
    exact fin1 Nn hs K9 hret (by assumption) (by assumption) (by assumption) (by assumption) (List.forall_mem_nil _) (by k_mem) (List.forall_mem_nil _) ⟨_, _, _, rfl, rfl, ⟨_, _, rfl, (bl_end hB _ _ _ _).choose_spec.1⟩, (bl_end hB _ _ _ _).choose_spec.2⟩
-- R18m
theorem shown_P (w : World) (n p : Int) (tn tp : Tok) (hp : p = 0 ∨ p = 1 ∨ p = 2) : Says 9 w 107 [.int n tn, .int p tp] [] (fun r tl => (∃ t, r = .str (rowF (sg n p.toNat)) t) ∧ tl = []) := by
  rcases hp with rfl | rfl | rfl
  · exact shown_C0 w n tn tp
  · exact shown_C1 w n tn tp
  · exact shown_C2 w n tn tp
theorem plain_P (w : World) (n p : Int) (tn tp : Tok) (h : Bd n) (hp : p = 0 ∨ p = 1 ∨ p = 2) : Says 9 w 114 [.int n tn, .int p tp] [] (fun r tl => (∃ t, r = .str (rowF (sg n p.toNat)) t) ∧ tl = []) := by
  rcases hp with rfl | rfl | rfl
  · exact plain_C0 w n tn tp h.1 h.2
  · exact plain_C1 w n tn tp h.1 h.2
  · exact plain_C2 w n tn tp h.1 h.2
/-- a statement is walked for itself -/
def CutPost (s : Shared) (R : Heap → Prop) (f : Flow) (s' : Shared) : Prop := f = .next ∧ ∃ (h' : Heap) (tk' : Nat), s' = { s with heap := h', toks := tk' } ∧ R h'
theorem CutPost.intro {s : Shared} {R : Heap → Prop} {h' : Heap} {tk' : Nat} (r : R h') : CutPost s R .next { s with heap := h', toks := tk' } := ⟨rfl, h', tk', rfl, r⟩
section
variable {prog : Program} {w : World} {A : Around} {E : Value → Shared → Prop} {s : Shared}
theorem cutS {st : Stmt} {env : Env} {Q : Flow → Shared → Prop} (R : Heap → Prop) (h1 : wpAny (model prog w) A (exec st env) (CutPost s R) E s) (h2 : ∀ h' tk', R h' → Q .next { s with heap := h', toks := tk' }) : wpAny (model prog w) A (exec st env) Q E s := by
  refine wpAny_mono h1 (fun f s' hq => ?_) fun _ _ e => e
  obtain ⟨rfl, h', tk', rfl, r⟩ := hq
  exact h2 h' tk' r
variable {h₀ : Heap} {L : Addr} {m : Str → Option Value} {news : List (Addr × Obj)} {Q : Value → Shared → Prop}
theorem vali4 {a b c d : Int} {ta tb tc td : Tok} : ∀ (i : Nat) (v : Value), (#[Value.int a ta, .int b tb, .int c tc, .int d td] : Array Value)[i]? = some v → ∃ t, v = .int (match i with | 0 => a | 1 => b | 2 => c | _ => d) t := by
  intro i v h
  rcases i with _ | _ | _ | _ | i
  · exact ⟨ta, (Option.some.inj h).symm⟩
  · exact ⟨tb, (Option.some.inj h).symm⟩
  · exact ⟨tc, (Option.some.inj h).symm⟩
  · exact ⟨td, (Option.some.inj h).symm⟩
  · simp at h
theorem sum4 {l : Addr} {k : Nat} {a b c d : Int} {ta tb tc td : Tok} (hh : A.handled = none) (F : Fr h₀ L s.heap m) (N : News h₀ L s.heap news) (hm : (l, PySem.W.listOf #[.int a ta, .int b tb, .int c tc, .int d td] k) ∈ news)
    (ha : Bd a) (hb : Bd b) (hc : Bd c) (hd : Bd d)
    (h : ∀ h' (t : Tok) tk, Fr h₀ L h' m → News h₀ L h' news → Q (.int (a + b + c + d) t) { s with heap := h', toks := tk }) : wpAny (model prog w) A (call (.builtin "sum") [.ref l]) Q E s := by
  unfold Bd at ha hb hc hd
  refine call_sum_walk (iter_any (kso_isList N hm rfl) fun s₂ e st hfp hlI => ?_)
  subst e
  refine ⟨_, _, _, _, _, _, fun i => match i with | 0 => a | 1 => b | 2 => c | _ => d, rfl, Walks.list (A := A.in1) hh _ l hlI _, st, hfp, vali4, (fun j hj => ?_), fun h' tk t' hk => ?_⟩
  · have hj' : j < 4 := hj
    have p63 : (2 : Int) ^ 63 = 9223372036854775808 := by decide
    unfold InLong
    rw [p63]
    rcases j with _ | _ | _ | _ | j
    · simp only [preSum]; omega
    · simp only [preSum]; omega
    · simp only [preSum]; omega
    · simp only [preSum]; omega
    · omega
  · have hq := h h' t' tk (F.grownK (old_kept hk)) (N.grown (old_kept hk))
    have e : preSum (fun i => match i with | 0 => a | 1 => b | 2 => c | _ => d) 4 = a + b + c + d := by
      simp only [preSum]; omega
    rw [← e] at hq
    exact hq
end
-- Q5
theorem four_of {k : Nat} (h : k < 4) : k = 0 ∨ k = 1 ∨ k = 2 ∨ k = 3 := by omega
def cl (x a b c : Nat) : Nat := min (max x (min a (min b c))) (max a (max b c))
theorem tw_one (x a : Nat) : tw x a = 1 ↔ a < x := by
  unfold tw; split <;> split <;> omega
theorem tw_neg (x a : Nat) : tw x a = -1 ↔ x < a := by
  unfold tw; split <;> split <;> omega
theorem cl_hi {x a b c : Nat} (h1 : a < x) (h2 : b < x) (h3 : c < x) : cl x a b c = mx3 a b c := by
  unfold cl mx3
  rw [← Nat.max_assoc]
  have hH : max (max a b) c < x := Nat.max_lt.mpr ⟨Nat.max_lt.mpr ⟨h1, h2⟩, h3⟩
  exact Nat.min_eq_right (Nat.le_trans (Nat.le_of_lt hH) (Nat.le_max_left _ _))
theorem cl_lo {x a b c : Nat} (h1 : x < a) (h2 : x < b) (h3 : x < c) : cl x a b c = mn3 a b c := by
  unfold cl mn3
  rw [← Nat.min_assoc]
  have hH : x < min (min a b) c := Nat.lt_min.mpr ⟨Nat.lt_min.mpr ⟨h1, h2⟩, h3⟩
  rw [Nat.max_eq_right (Nat.le_of_lt hH)]
  exact Nat.min_eq_left (Nat.le_trans (Nat.le_trans (Nat.min_le_left _ _) (Nat.min_le_left _ _)) (Nat.le_max_left _ _))
theorem cl_mid {x a b c : Nat} (h1 : ¬ (a < x ∧ b < x ∧ c < x)) (h2 : ¬ (x < a ∧ x < b ∧ x < c)) : cl x a b c = x := by
  unfold cl
  have hL : min a (min b c) ≤ x := Nat.le_of_not_lt fun h => h2 ⟨(Nat.lt_min.mp h).1, Nat.lt_min.mp (Nat.lt_min.mp h).2⟩
  have hH : x ≤ max a (max b c) := Nat.le_of_not_lt fun h => h1 ⟨(Nat.max_lt.mp h).1, Nat.max_lt.mp (Nat.max_lt.mp h).2⟩
  rw [Nat.max_eq_left hL, Nat.min_eq_left hH]
theorem sum_hi {u v w : Int} (a : -1 ≤ u ∧ u ≤ 1) (b : -1 ≤ v ∧ v ≤ 1) (c : -1 ≤ w ∧ w ≤ 1) : u + v + w = 3 ↔ u = 1 ∧ v = 1 ∧ w = 1 := by omega
theorem sum_lo {u v w : Int} (a : -1 ≤ u ∧ u ≤ 1) (b : -1 ≤ v ∧ v ≤ 1) (c : -1 ≤ w ∧ w ≤ 1) : u + v + w = -3 ↔ u = -1 ∧ v = -1 ∧ w = -1 := by omega
theorem cm_is (x a b c : Nat) : cm x a b c = cl x a b c := by
  have e3 := (sum_hi (tw_bd x a) (tw_bd x b) (tw_bd x c)).trans (and_congr (tw_one x a) (and_congr (tw_one x b) (tw_one x c)))
  have em := (sum_lo (tw_bd x a) (tw_bd x b) (tw_bd x c)).trans (and_congr (tw_neg x a) (and_congr (tw_neg x b) (tw_neg x c)))
  unfold cm
  by_cases h : tw x a + tw x b + tw x c = 3
  · rw [if_pos h]; exact (cl_hi (e3.mp h).1 (e3.mp h).2.1 (e3.mp h).2.2).symm
  · rw [if_neg h]
    by_cases h' : tw x a + tw x b + tw x c = -3
    · rw [if_pos h']; exact (cl_lo (em.mp h').1 (em.mp h').2.1 (em.mp h').2.2).symm
    · rw [if_neg h']; exact (cl_mid (fun q => h (e3.mpr q)) (fun q => h' (em.mpr q))).symm
def mB (x y z : Bool) : Bool := (x && y) || ((x || y) && z)
def cB (x a b c : Bool) : Bool := (x || (a && (b && c))) && (a || (b || c))
theorem thr {f g : Nat} (h : ∀ t, decide (t ≤ f) = decide (t ≤ g)) : f = g :=
  Nat.le_antisymm (of_decide_eq_true ((h f).symm.trans (decide_eq_true (Nat.le_refl _)))) (of_decide_eq_true ((h g).trans (decide_eq_true (Nat.le_refl _))))
theorem t_min (t u v : Nat) : decide (t ≤ min u v) = (decide (t ≤ u) && decide (t ≤ v)) := by rw [decide_eq_decide.mpr Nat.le_min, Bool.decide_and]
theorem t_max (t u v : Nat) : decide (t ≤ max u v) = (decide (t ≤ u) || decide (t ≤ v)) := by rw [decide_eq_decide.mpr (show t ≤ max u v ↔ t ≤ u ∨ t ≤ v by omega), Bool.decide_or]
theorem t_med (t x y z : Nat) : decide (t ≤ med x y z) = mB (decide (t ≤ x)) (decide (t ≤ y)) (decide (t ≤ z)) := by
  unfold med mB; rw [t_max, t_min, t_min, t_max]
theorem t_cl (t x a b c : Nat) : decide (t ≤ cl x a b c) = cB (decide (t ≤ x)) (decide (t ≤ a)) (decide (t ≤ b)) (decide (t ≤ c)) := by
  unfold cl cB; rw [t_min, t_max, t_min, t_min, t_max, t_max]
theorem t_mn4 (t x a b c : Nat) : decide (t ≤ mn4 x a b c) = ((decide (t ≤ x) && decide (t ≤ a)) && (decide (t ≤ b) && decide (t ≤ c))) := by
  unfold mn4; rw [t_min, t_min, t_min]
theorem t_mx4 (t x a b c : Nat) : decide (t ≤ mx4 x a b c) = ((decide (t ≤ x) || decide (t ≤ a)) || (decide (t ≤ b) || decide (t ≤ c))) := by
  unfold mx4; rw [t_max, t_max, t_max]
theorem ov_of {x a b c d m : Nat} (h1 : min x m = mn4 a b c d) (h2 : max x m = mx4 a b c d) : ov x a b c d = m := by
  unfold ov
  rw [← h1, ← h2]
  split <;> omega
theorem once_once0 (f : Nat → Nat → Nat) : onceR (onceR f) 0 = calmR f 0 := by
  funext j
  show med (med (f 0 j) (f 2 j) (f 3 j)) (med (f 0 j) (f 1 j) (f 3 j)) (med (f 0 j) (f 1 j) (f 2 j)) = (cm (f 0 j) (f 1 j) (f 2 j) (f 3 j))
  rw [cm_is]
  refine thr fun t => ?_
  rw [t_med, t_med, t_med, t_med, t_cl]
  exact (by decide : ∀ p q r s : Bool, mB (mB p r s) (mB p q s) (mB p q r) = (cB p q r s)) (decide (t ≤ (f 0 j))) (decide (t ≤ (f 1 j))) (decide (t ≤ (f 2 j))) (decide (t ≤ (f 3 j)))
theorem once_calm0 (f : Nat → Nat → Nat) : onceR (calmR f) 0 = onceR f 0 := by
  funext j
  show med (cm (f 1 j) (f 0 j) (f 2 j) (f 3 j)) (cm (f 2 j) (f 0 j) (f 1 j) (f 3 j)) (cm (f 3 j) (f 0 j) (f 1 j) (f 2 j)) = (med (f 1 j) (f 2 j) (f 3 j))
  rw [cm_is, cm_is, cm_is]
  refine thr fun t => ?_
  rw [t_med, t_med, t_cl, t_cl, t_cl]
  exact (by decide : ∀ p q r s : Bool, mB (cB q p r s) (cB r p q s) (cB s p q r) = (mB q r s)) (decide (t ≤ (f 0 j))) (decide (t ≤ (f 1 j))) (decide (t ≤ (f 2 j))) (decide (t ≤ (f 3 j)))
theorem over_calm0 (f : Nat → Nat → Nat) : overR (calmR f) 0 = onceR f 0 := by
  funext j
  show ov (cm (f 0 j) (f 1 j) (f 2 j) (f 3 j)) (cm (f 0 j) (f 1 j) (f 2 j) (f 3 j)) (cm (f 1 j) (f 0 j) (f 2 j) (f 3 j)) (cm (f 2 j) (f 0 j) (f 1 j) (f 3 j)) (cm (f 3 j) (f 0 j) (f 1 j) (f 2 j)) = (med (f 1 j) (f 2 j) (f 3 j))
  rw [cm_is, cm_is, cm_is, cm_is]
  refine ov_of (thr fun t => ?_) (thr fun t => ?_)
  · rw [t_min, t_med, t_mn4, t_cl, t_cl, t_cl, t_cl]
    exact (by decide : ∀ p q r s : Bool, ((cB p q r s) && (mB q r s)) = (((cB p q r s) && (cB q p r s)) && ((cB r p q s) && (cB s p q r)))) (decide (t ≤ (f 0 j))) (decide (t ≤ (f 1 j))) (decide (t ≤ (f 2 j))) (decide (t ≤ (f 3 j)))
  · rw [t_max, t_med, t_mx4, t_cl, t_cl, t_cl, t_cl]
    exact (by decide : ∀ p q r s : Bool, ((cB p q r s) || (mB q r s)) = (((cB p q r s) || (cB q p r s)) || ((cB r p q s) || (cB s p q r)))) (decide (t ≤ (f 0 j))) (decide (t ≤ (f 1 j))) (decide (t ≤ (f 2 j))) (decide (t ≤ (f 3 j)))
theorem once_once1 (f : Nat → Nat → Nat) : onceR (onceR f) 1 = calmR f 1 := by
  funext j
  show med (med (f 1 j) (f 2 j) (f 3 j)) (med (f 0 j) (f 1 j) (f 3 j)) (med (f 0 j) (f 1 j) (f 2 j)) = (cm (f 1 j) (f 0 j) (f 2 j) (f 3 j))
  rw [cm_is]
  refine thr fun t => ?_
  rw [t_med, t_med, t_med, t_med, t_cl]
  exact (by decide : ∀ p q r s : Bool, mB (mB q r s) (mB p q s) (mB p q r) = (cB q p r s)) (decide (t ≤ (f 0 j))) (decide (t ≤ (f 1 j))) (decide (t ≤ (f 2 j))) (decide (t ≤ (f 3 j)))
theorem once_calm1 (f : Nat → Nat → Nat) : onceR (calmR f) 1 = onceR f 1 := by
  funext j
  show med (cm (f 0 j) (f 1 j) (f 2 j) (f 3 j)) (cm (f 2 j) (f 0 j) (f 1 j) (f 3 j)) (cm (f 3 j) (f 0 j) (f 1 j) (f 2 j)) = (med (f 0 j) (f 2 j) (f 3 j))
  rw [cm_is, cm_is, cm_is]
  refine thr fun t => ?_
  rw [t_med, t_med, t_cl, t_cl, t_cl]
  exact (by decide : ∀ p q r s : Bool, mB (cB p q r s) (cB r p q s) (cB s p q r) = (mB p r s)) (decide (t ≤ (f 0 j))) (decide (t ≤ (f 1 j))) (decide (t ≤ (f 2 j))) (decide (t ≤ (f 3 j)))
theorem over_calm1 (f : Nat → Nat → Nat) : overR (calmR f) 1 = onceR f 1 := by
  funext j
  show ov (cm (f 1 j) (f 0 j) (f 2 j) (f 3 j)) (cm (f 0 j) (f 1 j) (f 2 j) (f 3 j)) (cm (f 1 j) (f 0 j) (f 2 j) (f 3 j)) (cm (f 2 j) (f 0 j) (f 1 j) (f 3 j)) (cm (f 3 j) (f 0 j) (f 1 j) (f 2 j)) = (med (f 0 j) (f 2 j) (f 3 j))
  rw [cm_is, cm_is, cm_is, cm_is]
  refine ov_of (thr fun t => ?_) (thr fun t => ?_)
  · rw [t_min, t_med, t_mn4, t_cl, t_cl, t_cl, t_cl]
    exact (by decide : ∀ p q r s : Bool, ((cB q p r s) && (mB p r s)) = (((cB p q r s) && (cB q p r s)) && ((cB r p q s) && (cB s p q r)))) (decide (t ≤ (f 0 j))) (decide (t ≤ (f 1 j))) (decide (t ≤ (f 2 j))) (decide (t ≤ (f 3 j)))
  · rw [t_max, t_med, t_mx4, t_cl, t_cl, t_cl, t_cl]
    exact (by decide : ∀ p q r s : Bool, ((cB q p r s) || (mB p r s)) = (((cB p q r s) || (cB q p r s)) || ((cB r p q s) || (cB s p q r)))) (decide (t ≤ (f 0 j))) (decide (t ≤ (f 1 j))) (decide (t ≤ (f 2 j))) (decide (t ≤ (f 3 j)))
theorem once_once2 (f : Nat → Nat → Nat) : onceR (onceR f) 2 = calmR f 2 := by
  funext j
  show med (med (f 1 j) (f 2 j) (f 3 j)) (med (f 0 j) (f 2 j) (f 3 j)) (med (f 0 j) (f 1 j) (f 2 j)) = (cm (f 2 j) (f 0 j) (f 1 j) (f 3 j))
  rw [cm_is]
  refine thr fun t => ?_
  rw [t_med, t_med, t_med, t_med, t_cl]
  exact (by decide : ∀ p q r s : Bool, mB (mB q r s) (mB p r s) (mB p q r) = (cB r p q s)) (decide (t ≤ (f 0 j))) (decide (t ≤ (f 1 j))) (decide (t ≤ (f 2 j))) (decide (t ≤ (f 3 j)))
theorem once_calm2 (f : Nat → Nat → Nat) : onceR (calmR f) 2 = onceR f 2 := by
  funext j
  show med (cm (f 0 j) (f 1 j) (f 2 j) (f 3 j)) (cm (f 1 j) (f 0 j) (f 2 j) (f 3 j)) (cm (f 3 j) (f 0 j) (f 1 j) (f 2 j)) = (med (f 0 j) (f 1 j) (f 3 j))
  rw [cm_is, cm_is, cm_is]
  refine thr fun t => ?_
  rw [t_med, t_med, t_cl, t_cl, t_cl]
  exact (by decide : ∀ p q r s : Bool, mB (cB p q r s) (cB q p r s) (cB s p q r) = (mB p q s)) (decide (t ≤ (f 0 j))) (decide (t ≤ (f 1 j))) (decide (t ≤ (f 2 j))) (decide (t ≤ (f 3 j)))
theorem over_calm2 (f : Nat → Nat → Nat) : overR (calmR f) 2 = onceR f 2 := by
  funext j
  show ov (cm (f 2 j) (f 0 j) (f 1 j) (f 3 j)) (cm (f 0 j) (f 1 j) (f 2 j) (f 3 j)) (cm (f 1 j) (f 0 j) (f 2 j) (f 3 j)) (cm (f 2 j) (f 0 j) (f 1 j) (f 3 j)) (cm (f 3 j) (f 0 j) (f 1 j) (f 2 j)) = (med (f 0 j) (f 1 j) (f 3 j))
  rw [cm_is, cm_is, cm_is, cm_is]
  refine ov_of (thr fun t => ?_) (thr fun t => ?_)
  · rw [t_min, t_med, t_mn4, t_cl, t_cl, t_cl, t_cl]
    exact (by decide : ∀ p q r s : Bool, ((cB r p q s) && (mB p q s)) = (((cB p q r s) && (cB q p r s)) && ((cB r p q s) && (cB s p q r)))) (decide (t ≤ (f 0 j))) (decide (t ≤ (f 1 j))) (decide (t ≤ (f 2 j))) (decide (t ≤ (f 3 j)))
  · rw [t_max, t_med, t_mx4, t_cl, t_cl, t_cl, t_cl]
    exact (by decide : ∀ p q r s : Bool, ((cB r p q s) || (mB p q s)) = (((cB p q r s) || (cB q p r s)) || ((cB r p q s) || (cB s p q r)))) (decide (t ≤ (f 0 j))) (decide (t ≤ (f 1 j))) (decide (t ≤ (f 2 j))) (decide (t ≤ (f 3 j)))
theorem once_once3 (f : Nat → Nat → Nat) : onceR (onceR f) 3 = calmR f 3 := by
  funext j
  show med (med (f 1 j) (f 2 j) (f 3 j)) (med (f 0 j) (f 2 j) (f 3 j)) (med (f 0 j) (f 1 j) (f 3 j)) = (cm (f 3 j) (f 0 j) (f 1 j) (f 2 j))
  rw [cm_is]
  refine thr fun t => ?_
  rw [t_med, t_med, t_med, t_med, t_cl]
  exact (by decide : ∀ p q r s : Bool, mB (mB q r s) (mB p r s) (mB p q s) = (cB s p q r)) (decide (t ≤ (f 0 j))) (decide (t ≤ (f 1 j))) (decide (t ≤ (f 2 j))) (decide (t ≤ (f 3 j)))
theorem once_calm3 (f : Nat → Nat → Nat) : onceR (calmR f) 3 = onceR f 3 := by
  funext j
  show med (cm (f 0 j) (f 1 j) (f 2 j) (f 3 j)) (cm (f 1 j) (f 0 j) (f 2 j) (f 3 j)) (cm (f 2 j) (f 0 j) (f 1 j) (f 3 j)) = (med (f 0 j) (f 1 j) (f 2 j))
  rw [cm_is, cm_is, cm_is]
  refine thr fun t => ?_
  rw [t_med, t_med, t_cl, t_cl, t_cl]
  exact (by decide : ∀ p q r s : Bool, mB (cB p q r s) (cB q p r s) (cB r p q s) = (mB p q r)) (decide (t ≤ (f 0 j))) (decide (t ≤ (f 1 j))) (decide (t ≤ (f 2 j))) (decide (t ≤ (f 3 j)))
theorem over_calm3 (f : Nat → Nat → Nat) : overR (calmR f) 3 = onceR f 3 := by
  funext j
  show ov (cm (f 3 j) (f 0 j) (f 1 j) (f 2 j)) (cm (f 0 j) (f 1 j) (f 2 j) (f 3 j)) (cm (f 1 j) (f 0 j) (f 2 j) (f 3 j)) (cm (f 2 j) (f 0 j) (f 1 j) (f 3 j)) (cm (f 3 j) (f 0 j) (f 1 j) (f 2 j)) = (med (f 0 j) (f 1 j) (f 2 j))
  rw [cm_is, cm_is, cm_is, cm_is]
  refine ov_of (thr fun t => ?_) (thr fun t => ?_)
  · rw [t_min, t_med, t_mn4, t_cl, t_cl, t_cl, t_cl]
    exact (by decide : ∀ p q r s : Bool, ((cB s p q r) && (mB p q r)) = (((cB p q r s) && (cB q p r s)) && ((cB r p q s) && (cB s p q r)))) (decide (t ≤ (f 0 j))) (decide (t ≤ (f 1 j))) (decide (t ≤ (f 2 j))) (decide (t ≤ (f 3 j)))
  · rw [t_max, t_med, t_mx4, t_cl, t_cl, t_cl, t_cl]
    exact (by decide : ∀ p q r s : Bool, ((cB s p q r) || (mB p q r)) = (((cB p q r s) || (cB q p r s)) || ((cB r p q s) || (cB s p q r)))) (decide (t ≤ (f 0 j))) (decide (t ≤ (f 1 j))) (decide (t ≤ (f 2 j))) (decide (t ≤ (f 3 j)))
theorem once_once (f : Nat → Nat → Nat) {k : Nat} (hk : k < 4) : onceR (onceR f) k = calmR f k := by
  rcases four_of hk with rfl | rfl | rfl | rfl
  · exact once_once0 f
  · exact once_once1 f
  · exact once_once2 f
  · exact once_once3 f
theorem once_calm (f : Nat → Nat → Nat) {k : Nat} (hk : k < 4) : onceR (calmR f) k = onceR f k := by
  rcases four_of hk with rfl | rfl | rfl | rfl
  · exact once_calm0 f
  · exact once_calm1 f
  · exact once_calm2 f
  · exact once_calm3 f
theorem over_calm (f : Nat → Nat → Nat) {k : Nat} (hk : k < 4) : overR (calmR f) k = onceR f k := by
  rcases four_of hk with rfl | rfl | rfl | rfl
  · exact over_calm0 f
  · exact over_calm1 f
  · exact over_calm2 f
  · exact over_calm3 f
theorem med_lt {x y z b : Nat} (hx : x < b) (hz : z < b) : med x y z < b := by
  unfold med
  exact Nat.max_lt.mpr ⟨Nat.lt_of_le_of_lt (Nat.min_le_left _ _) hx, Nat.lt_of_le_of_lt (Nat.min_le_right _ _) hz⟩
theorem cm_lt {x a b c d : Nat} (ha : a < d) (hb : b < d) (hc : c < d) : cm x a b c < d := by
  rw [cm_is]
  unfold cl
  exact Nat.lt_of_le_of_lt (Nat.min_le_right _ _) (Nat.max_lt.mpr ⟨ha, Nat.max_lt.mpr ⟨hb, hc⟩⟩)
-- F40
theorem ta_ns {f : Nat → Nat} {ys zs : List Value} {ns : List Int} (hI : IntsAre ys ns) (hz : YsAre (fun i y => ∃ t, (ns[i]?).isSome = true ∧ y = .str (mk (ns.getD i 0).toNat (f (ns.getD i 0).toNat)) t) ys.toArray.size zs) : TA zs (ns.map fun k => mk k.toNat (f k.toNat)) := by
  have hn : ys.toArray.size = ns.length := by rw [List.size_toArray]; exact hI.length
  rw [hn] at hz
  have h := ta_of (xs := ns.map fun k => mk k.toNat (f k.toNat)) (fun i y hy => ?_) hz (by simp)
  · have e : (ns.map fun k => mk k.toNat (f k.toNat)).take ns.length = ns.map fun k => mk k.toNat (f k.toNat) := List.take_of_length_le (by simp)
    rw [e] at h
    exact h
  · obtain ⟨t, hs, rfl⟩ := hy
    refine ⟨t, by simpa using hs, ?_⟩
    obtain ⟨k, hk⟩ := Option.isSome_iff_exists.mp hs
    simp [List.getD_eq_getElem?_getD, hk]
theorem marks_G (w : World) (l : Addr) (f : Nat → Nat) (t : Tok) (ys : List Value) (ns : List Int) (c : Nat) (hI : IntsAre ys ns) (hb : ∀ k ∈ ns, 0 ≤ k ∧ k < 4) (hl : ys.length ≤ 4) :
    Says 12 w 134 [.str (rowF f) t, .ref l] [(l, PySem.W.listOf ys.toArray c)]
      (fun r tl => ∃ D zs, r = .ref D ∧ tl = [(D, LCg.lst zs)] ∧ TA zs (ns.map fun k => mk k.toNat (f k.toNat))) := by
  unfold Says
  k_fill
  intro mean mg mb dp un gd cn cs a ccd cl outer A₀ base h₀ L m news s Q E B F X Nn T hk hd hu hs hret
  have N := cb_drop Nn hs
  refine wpAny_call ?_
  k_dflt (refine' enterCH (binds := [(Str.ofString "row", .str (rowF f) t), (Str.ofString "places", .ref l)]) ?k1 ?k2 ?k3 ?k4 ?k5 ?kA ?kF ?kK ?k6 ?k7 ?k8 ?k9 ?kB ?kD ?_ ?c2 ?c3 ?c4; (case kA => exact rfl); (case kF => exact rfl); (case kK => assumption); (case k1 => k_asm); (case k2 => k_asm); (case k3 => k_asm); (case k4 => exact N); (case k5 => k_asm); (case k6 => k_is); (case k7 => k_is); (case k8 => ktr_room); (case k9 => exact BindsTo.of_eq rfl); (case kB => exact rfl); (case kD => decide +kernel); (case c2 => exact rfl); (case c3 => exact rfl); (case c4 => exact rfl); k_whole; intro g' L' h' tk' cells' FG' F' N' Y' B' X' T' l1 K9; clear N; (try k_lt l1); k_cells Y'; (try simp only [List.cons_append, List.nil_append] at N'); (try dsimp only); (try k_fold))
  repeat ((fail_if_success (with_reducible show LCg.CompSrc _ _ _ _ _ _ _ _ _ _ _ _ _ _)); (first | (k_unfold; (try dsimp only)) | (k_end; wrow_close) | ((k_here; (with_reducible show wpAny _ _ (subscriptTail _ _ (Value.str _ _) (Value.int _ _)) _ _ _); (k_dflt (refine' sitem ?sh0 ?shz ?shc ?_ ?shs; (case shs => with_unfolding_all rfl); (case sh0 => first | decide | omega); (case shz => exact Nat.le_of_ble_eq_true rfl); (case shc => first | exact rowF_get _ (by assumption) | exact dig _ (by assumption) | exact rfl); k_whole)); intro t9' tk9'; (try dsimp only))) | ((with_reducible show LCg.FinA _ _ _ _ _ _ _ _); ((unfold LCg.FinA); intro D' h' tk' F' N' o1'; (try simp only [LCg.Off1, and_true] at o1'); (try simp only [List.nil_append, List.cons_append] at N'); (repeat ((with_reducible rename _ ∧ _ => hA9); (have hA1 := And.left hA9); (have hA2 := And.right hA9); clear hA9)); (try dsimp only))) | ((with_reducible show LCg.FinE _ _ _ _ _ _ _); ((unfold LCg.FinE); intro D' h' tk' F' N' o1'; (try simp only [LCg.Off1, and_true] at o1'); (try simp only [List.nil_append, List.cons_append] at N'); (repeat ((with_reducible rename _ ∧ _ => hA9); (have hA1 := And.left hA9); (have hA2 := And.right hA9); clear hA9)); (try dsimp only))) | ((with_reducible show LCg.CompRest _ _ _ _ _ _ _ _ _ _ _ _ _ _ _ _ _ _ _); (with_unfolding_all first | (refine LCg.CompRest.succ ?_; intro v' I' oI' C' oC' D' m' h' tk' E' hv' hC' hx' F' N' off' ne'; (first | lcg_open hv' | (obtain ⟨t9', hv9'⟩ := hv'; subst hv9')); (try simp only [LCg.Off3, and_true] at off'); (repeat ((with_reducible rename _ ∧ _ => hA9); (have hA1 := And.left hA9); (have hA2 := And.right hA9); clear hA9))) | refine LCg.CompRest.zero ?_)) | walk1 | (dsimp only; walk1)))
  refine LCg.CompSrc.ledger (by rfl) (by k_asm) (by k_asm) (by k_mem) (by rw [sizeLine_eq]; simp; omega) ?_
  intro g8
  refine' compRest_all (fun i y => ∃ t, (ns[i]?).isSome = true ∧ y = .str (mk (ns.getD i 0).toNat (f (ns.getD i 0).toNat)) t) ?turn ?hS ?fin
  case hS => exact .inr ⟨_, by k_mem, rfl, _, rfl⟩
  case turn =>
    intro i v I oI C oC D m2 h8 tk8 E8 ys8 hi hv hC hx F8 N8 off8 ne8
    obtain ⟨p, tp, hp, hk, rfl⟩ := ints_at hI hv hb
    simp only [LCg.Off3, and_true] at off8
    (repeat ((with_reducible rename _ ∧ _ => hA9); (have hA1 := And.left hA9); (have hA2 := And.right hA9); clear hA9))
    (repeat' (first | (k_unfold; (try dsimp only)) | (k_end; wrow_close) | ((k_here; (with_reducible show wpAny _ _ (subscriptTail _ _ (Value.str _ _) (Value.int _ _)) _ _ _); (k_dflt (refine' sitem ?sh0 ?shz ?shc ?_ ?shs; (case shs => with_unfolding_all rfl); (case sh0 => first | decide | omega); (case shz => exact Nat.le_of_ble_eq_true rfl); (case shc => first | exact rowF_get _ (by assumption) | exact dig _ (by assumption) | exact rfl); k_whole)); intro t9' tk9'; (try dsimp only))) | ((with_reducible show LCg.FinA _ _ _ _ _ _ _ _); ((unfold LCg.FinA); intro D' h' tk' F' N' o1'; (try simp only [LCg.Off1, and_true] at o1'); (try simp only [List.nil_append, List.cons_append] at N'); (repeat ((with_reducible rename _ ∧ _ => hA9); (have hA1 := And.left hA9); (have hA2 := And.right hA9); clear hA9)); (try dsimp only))) | ((with_reducible show LCg.FinE _ _ _ _ _ _ _); ((unfold LCg.FinE); intro D' h' tk' F' N' o1'; (try simp only [LCg.Off1, and_true] at o1'); (try simp only [List.nil_append, List.cons_append] at N'); (repeat ((with_reducible rename _ ∧ _ => hA9); (have hA1 := And.left hA9); (have hA2 := And.right hA9); clear hA9)); (try dsimp only))) | ((with_reducible show LCg.CompRest _ _ _ _ _ _ _ _ _ _ _ _ _ _ _ _ _ _ _); (with_unfolding_all first | (refine LCg.CompRest.succ ?_; intro v' I' oI' C' oC' D' m' h' tk' E' hv' hC' hx' F' N' off' ne'; (first | lcg_open hv' | (obtain ⟨t9', hv9'⟩ := hv'; subst hv9')); (try simp only [LCg.Off3, and_true] at off'); (repeat ((with_reducible rename _ ∧ _ => hA9); (have hA1 := And.left hA9); (have hA2 := And.right hA9); clear hA9))) | refine LCg.CompRest.zero ?_)) | walk1 | (dsimp only; walk1) | (leave1; walk_say "STEP leave1"; try dsimp only) | fail "no step"))
    refine CellPost.intro (by k_asm) (by k_asm) (by lcg_sub) ⟨_, by rw [hk]; rfl, congrArg (fun x => Value.str x _) ?_⟩
    rw [List.getD_eq_getElem?_getD, hk]
    rfl
  case fin =>
    intro zs hz
    (repeat' (first | (k_unfold; (try dsimp only)) | (k_end; wrow_close) | ((k_here; (with_reducible show wpAny _ _ (subscriptTail _ _ (Value.str _ _) (Value.int _ _)) _ _ _); (k_dflt (refine' sitem ?sh0 ?shz ?shc ?_ ?shs; (case shs => with_unfolding_all rfl); (case sh0 => first | decide | omega); (case shz => exact Nat.le_of_ble_eq_true rfl); (case shc => first | exact rowF_get _ (by assumption) | exact dig _ (by assumption) | exact rfl); k_whole)); intro t9' tk9'; (try dsimp only))) | ((with_reducible show LCg.FinA _ _ _ _ _ _ _ _); ((unfold LCg.FinA); intro D' h' tk' F' N' o1'; (try simp only [LCg.Off1, and_true] at o1'); (try simp only [List.nil_append, List.cons_append] at N'); (repeat ((with_reducible rename _ ∧ _ => hA9); (have hA1 := And.left hA9); (have hA2 := And.right hA9); clear hA9)); (try dsimp only))) | ((with_reducible show LCg.FinE _ _ _ _ _ _ _); ((unfold LCg.FinE); intro D' h' tk' F' N' o1'; (try simp only [LCg.Off1, and_true] at o1'); (try simp only [List.nil_append, List.cons_append] at N'); (repeat ((with_reducible rename _ ∧ _ => hA9); (have hA1 := And.left hA9); (have hA2 := And.right hA9); clear hA9)); (try dsimp only))) | ((with_reducible show LCg.CompRest _ _ _ _ _ _ _ _ _ _ _ _ _ _ _ _ _ _ _); (with_unfolding_all first | (refine LCg.CompRest.succ ?_; intro v' I' oI' C' oC' D' m' h' tk' E' hv' hC' hx' F' N' off' ne'; (first | lcg_open hv' | (obtain ⟨t9', hv9'⟩ := hv'; subst hv9')); (try simp only [LCg.Off3, and_true] at off'); (repeat ((with_reducible rename _ ∧ _ => hA9); (have hA1 := And.left hA9); (have hA2 := And.right hA9); clear hA9))) | refine LCg.CompRest.zero ?_)) | walk1 | (dsimp only; walk1) | (leave1; walk_say "STEP leave1"; try dsimp only) | fail "no step"))
    have hz' : TA zs (ns.map fun k => mk k.toNat (f k.toNat)) := ta_ns hI hz
    refine fin1 Nn hs K9 hret (by assumption) (by assumption) (by assumption) (by assumption) (List.forall_mem_cons.mpr ⟨by k_mem, List.forall_mem_nil _⟩) (by k_mem) (List.forall_mem_cons.mpr ⟨by k_ne, List.forall_mem_nil _⟩) ⟨_, _, rfl, rfl, hz'⟩
-- R21m
mutual
theorem eqv_self : ∀ d : PyData, d.canLay0 = true → PyData.eqv d d = true
  | .none, _ => by simp only [PyData.eqv]
  | .bool _, _ => by simp only [PyData.eqv, beq_self_eq_true]
  | .int _, _ => by simp only [PyData.eqv, beq_self_eq_true]
  | .str _, _ => by simp only [PyData.eqv, beq_self_eq_true]
  | .list xs, h => by simp only [PyData.eqv]; exact eqvAll_self xs (by simpa only [PyData.canLay0] using h)
  | .tuple xs, h => by simp only [PyData.eqv]; exact eqvAll_self xs (by simpa only [PyData.canLay0] using h)
  | .dict _, h => by simp only [PyData.canLay0] at h; cases h
theorem eqvAll_self : ∀ ds : List PyData, PyData.canLayAll0 ds = true → PyData.eqvAll ds ds = true
  | [], _ => by simp only [PyData.eqvAll]
  | d :: ds, h => by
    simp only [PyData.canLayAll0, Bool.and_eq_true] at h
    simp only [PyData.eqvAll, Bool.and_eq_true]
    exact ⟨eqv_self d h.1, eqvAll_self ds h.2⟩
end
def Ok (f : Nat → Nat) : Prop := ∀ j, f j < 1114112
theorem pickB_bd (n : Int) : ∀ l : List (Int × Nat), (∀ q ∈ l, q.2 < 1114112) → pickB n l < 1114112
  | [], _ => by unfold pickB; decide
  | (b, c) :: r, h => by
    unfold pickB
    split
    · exact h (b, c) (.head _)
    · exact pickB_bd n r fun q hq => h q (.tail _ hq)
theorem pickK_bd (n : Int) : ∀ l : List (Int × Nat), (∀ q ∈ l, q.2 < 1114112) → pickK n l < 1114112
  | [], _ => by unfold pickK; decide
  | (b, c) :: r, h => by
    unfold pickK
    split
    · exact h (b, c) (.head _)
    · exact pickK_bd n r fun q hq => h q (.tail _ hq)
theorem tab_bd (i : Nat) : ∀ q ∈ fmTabs.getD i [], q.2 < 1114112 := by
  by_cases h : i < 10
  · exact (by decide : ∀ i < 10, ∀ q ∈ fmTabs.getD i [], q.2 < 1114112) i h
  · rw [List.getD_eq_getElem?_getD, List.getElem?_eq_none (Nat.not_lt.mp h)]; exact fun _ h => nomatch h
theorem fms_bd (n : Int) (i : Nat) : fms n i < 1114112 := by
  unfold fms
  split
  · exact pickK_bd n _ (tab_bd 0)
  · exact pickB_bd n _ (tab_bd i)
theorem ok_sg (n : Int) (p : Nat) : Ok (sg n p) := by
  intro j
  unfold sg
  split <;> exact fms_bd n _
theorem ok_row {f : Nat → Nat} (h : Ok f) : PyData.strOk (rowF f) = true := by
  have h0 := h 0
  have h1 := h 1
  have h2 := h 2
  have h3 := h 3
  simp [PyData.strOk, rowF, h0, h1, h2, h3]
theorem ok_df {f : Nat → Nat} (g : Nat → Nat) (h : Ok f) : ∀ k, k ≤ 4 → ∀ x ∈ df f g k, PyData.strOk x = true
  | 0, _, x, hx => by simp [df] at hx
  | k + 1, hk, x, hx => by
    unfold df at hx
    rcases List.mem_append.mp hx with hx | hx
    · exact ok_df g h k (by omega) x hx
    · split at hx
      · simp at hx
      · rw [List.mem_singleton.mp hx]
        have h1 := h k
        have h2 : 48 + k < 1114112 := by omega
        simp [PyData.strOk, h1, h2]
theorem okL : ∀ xs : List Str, (∀ x ∈ xs, PyData.strOk x = true) → PyData.canLayAll0 (xs.map PyData.str) = true ∧ PyData.depthAll (xs.map PyData.str) = 0
  | [], _ => ⟨by simp [PyData.canLayAll0], by simp [PyData.depthAll]⟩
  | x :: xs, h => by
    have ih := okL xs fun y hy => h y (.tail _ hy)
    have hx := h x (.head _)
    exact ⟨by simp [PyData.canLayAll0, PyData.canLay0, hx, ih.1], by simp [PyData.depthAll, PyData.depth, ih.2]⟩
theorem TA.reads {h : Heap} {vs : List Value} {xs : List Str} (t : TA vs xs) : ReadsAll h vs (xs.map PyData.str) [] := by
  induction t with
  | nil => exact .nil
  | cons _ ih => exact .cons (.str _ _) ih
section
variable {prog : Program} {w : World} {A : Around} {E : Value → Shared → Prop} {s : Shared} {h₀ : Heap} {L : Addr} {news : List (Addr × Obj)} {Q : Value → Shared → Prop}
def rows4 (x0 x1 x2 x3 : Str) : PyData := .list [.str x0, .str x1, .str x2, .str x3]
theorem reads4 {h : Heap} {D : Addr} {x0 x1 x2 x3 : Str} {t0 t1 t2 t3 : Tok} {c : Nat} (N : News h₀ L h news) (hm : (D, PySem.W.listOf #[.str x0 t0, .str x1 t1, .str x2 t2, .str x3 t3] c) ∈ news) : Reads h (.ref D) (rows4 x0 x1 x2 x3) [D] :=
  reads_list_at (N _ hm).1 rfl rfl (.cons (.str _ _) (.cons (.str _ _) (.cons (.str _ _) (.cons (.str _ _) .nil))))
theorem rows4_ok {x0 x1 x2 x3 : Str} (h0 : PyData.strOk x0 = true) (h1 : PyData.strOk x1 = true) (h2 : PyData.strOk x2 = true) (h3 : PyData.strOk x3 = true) : SeqAt.shaped (rows4 x0 x1 x2 x3) = true := by
  simp [SeqAt.shaped, rows4, PyData.canLay0, PyData.canLayAll0, PyData.depth, PyData.depthAll, h0, h1, h2, h3]
theorem ne_rows {D1 D2 : Addr} {f0 f1 f2 f3 : Nat → Nat} {t0 t1 t2 t3 u0 u1 u2 u3 : Tok} {c1 c2 : Nat} (N : News h₀ L s.heap news) (hm1 : (D1, PySem.W.listOf #[.str (rowF f0) t0, .str (rowF f1) t1, .str (rowF f2) t2, .str (rowF f3) t3] c1) ∈ news) (hm2 : (D2, PySem.W.listOf #[.str (rowF f0) u0, .str (rowF f1) u1, .str (rowF f2) u2, .str (rowF f3) u3] c2) ∈ news)
    (h0 : Ok f0) (h1 : Ok f1) (h2 : Ok f2) (h3 : Ok f3) (hu : A.units + 64 < cLine) (h : Q (.bool false) s) : wpAny (model prog w) A (compareOp .NotEq (.ref D1) (.ref D2)) Q E s := by
  have sh := rows4_ok (ok_row h0) (ok_row h1) (ok_row h2) (ok_row h3)
  refine ne_dataH (reads4 N hm1) (reads4 N hm2) sh sh hu ?_
  rw [eqv_self _ (SeqAt.canLay_of_shaped sh)]
  exact h
theorem eq_rows {D1 D2 : Addr} {f0 f1 f2 f3 : Nat → Nat} {t0 t1 t2 t3 u0 u1 u2 u3 : Tok} {c1 c2 : Nat} (N : News h₀ L s.heap news) (hm1 : (D1, PySem.W.listOf #[.str (rowF f0) t0, .str (rowF f1) t1, .str (rowF f2) t2, .str (rowF f3) t3] c1) ∈ news) (hm2 : (D2, PySem.W.listOf #[.str (rowF f0) u0, .str (rowF f1) u1, .str (rowF f2) u2, .str (rowF f3) u3] c2) ∈ news)
    (h0 : Ok f0) (h1 : Ok f1) (h2 : Ok f2) (h3 : Ok f3) (hu : A.units + 64 < cLine) (h : Q (.bool true) s) : wpAny (model prog w) A (compareOp .Eq (.ref D1) (.ref D2)) Q E s := by
  have sh := rows4_ok (ok_row h0) (ok_row h1) (ok_row h2) (ok_row h3)
  refine eq_dataH (reads4 N hm1) (reads4 N hm2) sh sh hu ?_
  rw [eqv_self _ (SeqAt.canLay_of_shaped sh)]
  exact h
def pairT (xs ys : List Str) : PyData := .tuple [.list (xs.map PyData.str), .list (ys.map PyData.str)]
theorem readsP {h : Heap} {A B G : Addr} {M U : Array Value} {cm cu : Nat} {xs ys : List Str} (N : News h₀ L h news) (hA : (A, tupO #[.ref B, .ref G]) ∈ news) (hB : (B, PySem.W.listOf M cm) ∈ news) (hG : (G, PySem.W.listOf U cu) ∈ news) (ta : TA M.toList xs) (tb : TA U.toList ys) :
    Reads h (.ref A) (pairT xs ys) [B, G] :=
  reads_tuple_at (N _ hA).1 rfl rfl (.cons (reads_list_at (N _ hB).1 rfl rfl ta.reads) (.cons (reads_list_at (N _ hG).1 rfl rfl tb.reads) .nil))
theorem pairT_ok {xs ys : List Str} (hx : ∀ x ∈ xs, PyData.strOk x = true) (hy : ∀ x ∈ ys, PyData.strOk x = true) : (pairT xs ys).canLay0 = true ∧ (pairT xs ys).depth = 2 := by
  obtain ⟨a1, a2⟩ := okL xs hx
  obtain ⟨b1, b2⟩ := okL ys hy
  exact ⟨by simp [pairT, PyData.canLay0, PyData.canLayAll0, a1, b1], by simp [pairT, PyData.depth, PyData.depthAll, a2, b2]⟩
theorem eq_told {T S A0 A1 A2 A3 Z0 Z1 Z2 Z3 : Addr} {c1 c2 : Nat} {d0 d1 d2 d3 : PyData} {as0 as1 as2 as3 bs0 bs1 bs2 bs3 : List Addr} (N : News h₀ L s.heap news) (hT : (T, PySem.W.listOf #[.ref A0, .ref A1, .ref A2, .ref A3] c1) ∈ news) (hS : (S, PySem.W.listOf #[.ref Z0, .ref Z1, .ref Z2, .ref Z3] c2) ∈ news)
    (r0 : Reads s.heap (.ref A0) d0 as0) (r1 : Reads s.heap (.ref A1) d1 as1) (r2 : Reads s.heap (.ref A2) d2 as2) (r3 : Reads s.heap (.ref A3) d3 as3)
    (z0 : Reads s.heap (.ref Z0) d0 bs0) (z1 : Reads s.heap (.ref Z1) d1 bs1) (z2 : Reads s.heap (.ref Z2) d2 bs2) (z3 : Reads s.heap (.ref Z3) d3 bs3)
    (k0 : d0.canLay0 = true ∧ d0.depth = 2) (k1 : d1.canLay0 = true ∧ d1.depth = 2) (k2 : d2.canLay0 = true ∧ d2.depth = 2) (k3 : d3.canLay0 = true ∧ d3.depth = 2)
    (hu : A.units + 64 < cLine) (h : Q (.bool true) s) : wpAny (model prog w) A (compareOp .Eq (.ref T) (.ref S)) Q E s := by
  have sh : SeqAt.shaped (.list [d0, d1, d2, d3]) = true := by
    simp [SeqAt.shaped, PyData.canLay0, PyData.canLayAll0, PyData.depth, PyData.depthAll, k0.1, k1.1, k2.1, k3.1, k0.2, k1.2, k2.2, k3.2]
  refine eq_dataH (reads_list_at (N _ hT).1 rfl rfl (.cons r0 (.cons r1 (.cons r2 (.cons r3 .nil))))) (reads_list_at (N _ hS).1 rfl rfl (.cons z0 (.cons z1 (.cons z2 (.cons z3 .nil))))) sh sh hu ?_
  rw [eqv_self _ (SeqAt.canLay_of_shaped sh)]
  exact h
end
theorem Says.mono {lv : Nat} {w : World} {f : Addr} {vs : List Value} {own : List (Addr × Obj)} {post post' : Value → List (Addr × Obj) → Prop} (C : Says lv w f vs own post) (h : ∀ r tl, post r tl → post' r tl) : Says lv w f vs own post' :=
  fun _ _ _ _ _ _ _ _ _ _ _ _ _ _ _ _ _ _ _ _ _ B F X N T hk hd hu hs ret => C _ _ _ _ _ _ _ _ _ _ _ _ _ _ _ _ _ _ _ _ _ B F X N T hk hd hu hs fun r tl h' tk' p => ret r tl h' tk' (h r tl p)
theorem marks_S (w : World) (l : Addr) (n : Nat) (f : Nat → Nat) (t t0 t1 t2 t3 : Tok) :
    Says 12 w 134 [.str (rowF f) t, .ref l] [(l, PySem.W.listOf #[.int 0 t0, .int 1 t1, .int 2 t2, .int 3 t3] n)] (fun r tl => ∃ D o, r = .ref D ∧ tl = [(D, o)] ∧ SO 4 (fun a => mk a (f a)) o) :=
  (marks_G w l f t [.int 0 t0, .int 1 t1, .int 2 t2, .int 3 t3] [0, 1, 2, 3] n (.cons _ _ (.cons _ _ (.cons _ _ (.cons _ _ .nil)))) (by decide) (Nat.le_refl 4)).mono fun r tl ⟨D, zs, hr, ht, ta⟩ => by
    refine ⟨D, _, hr, ht, zs, _, rfl, ?_⟩
    replace ta : TA zs [mk 0 (f 0), mk 1 (f 1), mk 2 (f 2), mk 3 (f 3)] := ta
    cases ta with | cons ta => cases ta with | cons ta => cases ta with | cons ta => cases ta with | cons ta => cases ta with | nil =>
    refine ⟨rfl, fun i hi => ?_⟩
    rcases four_of hi with rfl | rfl | rfl | rfl
    · exact ⟨_, rfl⟩
    · exact ⟨_, rfl⟩
    · exact ⟨_, rfl⟩
    · exact ⟨_, rfl⟩
section
variable {prog : Program} {w : World} {A : Around} {E : Value → Shared → Prop} {s : Shared} {h₀ : Heap} {L : Addr} {m : Str → Option Value} {news : List (Addr × Obj)} {Q : Value → Shared → Prop}
theorem io_sum {l : Addr} {o : Obj} {n : Nat → Int} (hh : A.handled = none) (F : Fr h₀ L s.heap m) (N : News h₀ L s.heap news) (hm : (l, o) ∈ news) (hS : IO 4 n o) (hb : ∀ i, Bd (n i))
    (h : ∀ h' k (t : Tok) tk, Fr h₀ L h' m → News h₀ L h' news → Q (.int k t) { s with heap := h', toks := tk }) : wpAny (model prog w) A (call (.builtin "sum") [.ref l]) Q E s := by
  obtain ⟨_, _, _, _, _, rfl⟩ := hS.four
  exact sum4 hh F N hm (hb _) (hb _) (hb _) (hb _) fun h' t tk => h h' _ t tk
theorem so_ne {D1 D2 : Addr} {o1 o2 : Obj} {f : Nat → Nat → Nat} (N : News h₀ L s.heap news) (hm1 : (D1, o1) ∈ news) (hm2 : (D2, o2) ∈ news) (S1 : SO 4 (fun i => rowF (f i)) o1) (S2 : SO 4 (fun i => rowF (f i)) o2) (ok : ∀ i, Ok (f i)) (hu : A.units + 64 < cLine) (h : Q (.bool false) s) :
    wpAny (model prog w) A (compareOp .NotEq (.ref D1) (.ref D2)) Q E s := by
  obtain ⟨_, _, _, _, _, rfl⟩ := S1.four
  obtain ⟨_, _, _, _, _, rfl⟩ := S2.four
  exact ne_rows N hm1 hm2 (ok 0) (ok 1) (ok 2) (ok 3) hu h
theorem so_eq {D1 D2 : Addr} {o1 o2 : Obj} {f : Nat → Nat → Nat} (N : News h₀ L s.heap news) (hm1 : (D1, o1) ∈ news) (hm2 : (D2, o2) ∈ news) (S1 : SO 4 (fun i => rowF (f i)) o1) (S2 : SO 4 (fun i => rowF (f i)) o2) (ok : ∀ i, Ok (f i)) (hu : A.units + 64 < cLine) (h : Q (.bool true) s) :
    wpAny (model prog w) A (compareOp .Eq (.ref D1) (.ref D2)) Q E s := by
  obtain ⟨_, _, _, _, _, rfl⟩ := S1.four
  obtain ⟨_, _, _, _, _, rfl⟩ := S2.four
  exact eq_rows N hm1 hm2 (ok 0) (ok 1) (ok 2) (ok 3) hu h
/-- a made pair of made lists of texts -/
def PairAt (nw : List (Addr × Obj)) (xs us : List Str) (y : Value) : Prop :=
  ∃ A B G M U cm cu, y = .ref A ∧ (A, tupO #[.ref B, .ref G]) ∈ nw ∧ (B, PySem.W.listOf M cm) ∈ nw ∧ (G, PySem.W.listOf U cu) ∈ nw ∧ TA M.toList xs ∧ TA U.toList us
theorem PairAt.mono {nw nw' : List (Addr × Obj)} {xs us : List Str} {y : Value} (h : PairAt nw xs us y) (hs : ∀ p ∈ nw, p ∈ nw') : PairAt nw' xs us y :=
  let ⟨A, B, G, M, U, cm, cu, e, h1, h2, h3, t1, t2⟩ := h; ⟨A, B, G, M, U, cm, cu, e, hs _ h1, hs _ h2, hs _ h3, t1, t2⟩
theorem PairAt.reads {nw : List (Addr × Obj)} {xs us : List Str} {y : Value} (h : PairAt nw xs us y) (N : News h₀ L s.heap nw) : ∃ A as, y = .ref A ∧ Reads s.heap (.ref A) (pairT xs us) as :=
  let ⟨A, _, _, _, _, _, _, e, h1, h2, h3, t1, t2⟩ := h; ⟨A, _, e, readsP N h1 h2 h3 t1 t2⟩
theorem eq_pairs {T S : Addr} {ys zs : List Value} {xs us : Nat → List Str} (N : News h₀ L s.heap news) (hT : (T, LCg.lst ys) ∈ news) (hS : (S, LCg.lst zs) ∈ news) (hy : YsAre (fun i y => PairAt news (xs i) (us i) y) 4 ys) (hz : YsAre (fun i y => PairAt news (xs i) (us i) y) 4 zs)
    (k : ∀ i, (pairT (xs i) (us i)).canLay0 = true ∧ (pairT (xs i) (us i)).depth = 2) (hu : A.units + 64 < cLine) (h : Q (.bool true) s) : wpAny (model prog w) A (compareOp .Eq (.ref T) (.ref S)) Q E s := by
  obtain ⟨_, _, _, _, rfl, p0, p1, p2, p3⟩ := hy.four
  obtain ⟨_, _, _, _, rfl, q0, q1, q2, q3⟩ := hz.four
  obtain ⟨_, _, rfl, a0⟩ := p0.reads N
  obtain ⟨_, _, rfl, a1⟩ := p1.reads N
  obtain ⟨_, _, rfl, a2⟩ := p2.reads N
  obtain ⟨_, _, rfl, a3⟩ := p3.reads N
  obtain ⟨_, _, rfl, b0⟩ := q0.reads N
  obtain ⟨_, _, rfl, b1⟩ := q1.reads N
  obtain ⟨_, _, rfl, b2⟩ := q2.reads N
  obtain ⟨_, _, rfl, b3⟩ := q3.reads N
  exact eq_told N hT hS a0 a1 a2 a3 b0 b1 b2 b3 (k 0) (k 1) (k 2) (k 3) hu h
end
theorem YsAre.mono {P P' : Nat → Value → Prop} (h : ∀ i y, P i y → P' i y) : ∀ {n : Nat} {ys : List Value}, YsAre P n ys → YsAre P' n ys := by
  intro n ys hy
  induction hy with
  | nil => exact .nil
  | snoc _ p ih => exact .snoc ih (h _ _ p)
section
variable {prog : Program} {w : World} {A : Around} {h₀ : Heap} {L : Addr} {m : Str → Option Value} {env : Env} {elt : Expr} {x : Str} {scope : Scope} {cl : List (Str × Addr)} {s₁ : Shared} {Fin : Shared → List Value → List (Addr × Obj) → Prop} {news : List (Addr × Obj)}
/-- what a comprehension's element leaves that puts objects onto the ledger -/
def AddPost (h₀ : Heap) (L : Addr) (m : Str → Option Value) (s₁ : Shared) (I : Addr) (oI : Obj) (C : Addr) (oC : Obj) (D : Addr) (oD : Obj) (nw : List (Addr × Obj)) (P : List (Addr × Obj) → Value → Prop) (y : Value) (s' : Shared) : Prop :=
  ∃ h' tk' tl, s' = { s₁ with heap := h', toks := tk' } ∧ Fr h₀ L h' m ∧ News h₀ L h' ((I, oI) :: (C, oC) :: (D, oD) :: (nw ++ tl)) ∧ LCg.Off3 I C D tl ∧ P (nw ++ tl) y
theorem off3_app {I C D : Addr} : ∀ {tl nw : List (Addr × Obj)}, LCg.Off3 I C D tl → LCg.Off3 I C D nw → LCg.Off3 I C D (tl ++ nw)
  | [], _, _, h => h
  | _ :: _, _, h1, h => ⟨h1.1, off3_app h1.2 h⟩
theorem off1_tail {a : Addr} : ∀ (l : List (Addr × Obj)) {r : List (Addr × Obj)}, LCg.Off1 a (l ++ r) → LCg.Off1 a r
  | [], _, h => h
  | _ :: l, _, h => off1_tail l h.2
/-- the end of such an element: a made pair of lists is put on -/
theorem AddPost.pair {h₀ : Heap} {L : Addr} {m : Str → Option Value} {s₁ : Shared} {I C D : Addr} {oI oC oD : Obj} {nw : List (Addr × Obj)} {h' : Heap} {tk' : Nat} {xs us : List Str} (junk : List (Addr × Obj)) {a b g : Addr} {M U : Array Value} {cm cu : Nat} (F : Fr h₀ L h' m)
    (N : News h₀ L h' ((a, tupO #[.ref b, .ref g]) :: (b, PySem.W.listOf M cm) :: (g, PySem.W.listOf U cu) :: (junk ++ (I, oI) :: (C, oC) :: (D, oD) :: nw)))
    (o : ∀ p ∈ [(a, tupO #[.ref b, .ref g]), (b, PySem.W.listOf M cm), (g, PySem.W.listOf U cu)], LCg.Off1 p.1 (junk ++ (I, oI) :: (C, oC) :: (D, oD) :: nw)) (t1 : TA M.toList xs) (t2 : TA U.toList us) :
    AddPost h₀ L m s₁ I oI C oC D oD nw (fun nw y => PairAt nw xs us y) (.ref a) { s₁ with heap := h', toks := tk' } := by
  refine ⟨h', tk', [(a, tupO #[.ref b, .ref g]), (b, PySem.W.listOf M cm), (g, PySem.W.listOf U cu)], rfl, F, fun p hp => N p ?_, ?_, a, b, g, M, U, cm, cu, rfl, List.mem_append_right _ (.head _), List.mem_append_right _ (.tail _ (.head _)), List.mem_append_right _ (.tail _ (.tail _ (.head _))), t1, t2⟩
  · show p ∈ [(a, tupO #[.ref b, .ref g]), (b, PySem.W.listOf M cm), (g, PySem.W.listOf U cu)] ++ _
    rcases List.mem_append (s := (I, oI) :: (C, oC) :: (D, oD) :: nw).mp hp with hp | hp
    · exact List.mem_append_right _ (List.mem_append_right _ hp)
    · exact List.mem_append_left _ hp
  · have k : ∀ p ∈ [(a, tupO #[.ref b, .ref g]), (b, PySem.W.listOf M cm), (g, PySem.W.listOf U cu)], p.1 ≠ I ∧ p.1 ≠ C ∧ p.1 ≠ D := fun p hp =>
      let q := off1_tail junk (o p hp); ⟨q.1.symm, q.2.1.symm, q.2.2.1.symm⟩
    exact LCg.Off3.of k
/-- a comprehension over a range by ones whose element puts objects onto the ledger -/
theorem rg_add {n : Nat} {r : Addr} {t u v : Tok} (P : Nat → List (Addr × Obj) → Value → Prop) (hP : ∀ i nw nw' y, P i nw y → (∀ p ∈ nw, p ∈ nw') → P i nw' y) (hh : A.handled = none) (F : Fr h₀ L s₁.heap m) (N : News h₀ L s₁.heap news) (hr : IsRange s₁.heap r 0 ((n : Nat) : Int) 1 t u v) (hsm : Builtin.Range.small 0 ((n : Nat) : Int) 1 = true) (hz : Builtin.Range.rangeSize 0 ((n : Nat) : Int) 1 = ((n : Nat) : Int)) (hn : n ≤ 100)
    (turn : ∀ g9 i t I oI C oC D m₂ h tk (E' : Value → Shared → Prop) ys tl, i < n → LCg.NsObj oC m₂ → m₂ x = some (.int ((i : Nat) : Int) t) → Fr h₀ L h m → News h₀ L h ((I, oI) :: (C, oC) :: (D, LCg.lst ys) :: (news ++ tl)) →
      wpAny (model prog w) A (eval elt (compEnvC scope cl C env)) (AddPost h₀ L m { s₁ with heap := h, toks := tk } I oI C oC D (LCg.lst ys) (news ++ tl) (P i)) E' { { s₁ with heap := g9 } with heap := h, toks := tk })
    (fin : ∀ g9 ys tl, YsAre (fun i y => P i (news ++ tl) y) n ys → Fin { s₁ with heap := g9 } ys (news ++ tl)) : LCg.CompSrc prog w A h₀ L m env elt x scope cl Fin (.ref r) s₁ := by
  refine LCg.CompSrc.range (n := n) hh F N hr hsm hz (by rw [sizeLine_eq]; omega) fun g9 => ?_
  have key : ∀ (j i : Nat) (ys : List Value) (tl : List (Addr × Obj)), i + j = n → YsAre (fun i y => P i (news ++ tl) y) i ys → LCg.CompRest prog w A h₀ L m env elt x scope cl { s₁ with heap := g9 } (fun _ => True) (fun i v => ∃ t, v = .int (0 + (i : Int)) t) (Fin { s₁ with heap := g9 }) j i ys (news ++ tl) := by
    intro j
    induction j with
    | zero =>
      intro i ys tl hi hy
      obtain rfl : i = n := hi
      exact LCg.CompRest.zero (fin g9 ys tl hy)
    | succ j ih =>
      intro i ys tl hi hy
      refine LCg.CompRest.succ ?_
      intro v I oI C oC D m₂ h tk E' hv hC hx F' N' off ne
      obtain ⟨t', rfl⟩ := hv
      rw [Int.zero_add] at hx
      refine wpAny_mono (turn g9 i t' I oI C oC D m₂ h tk E' ys tl (by omega) hC hx F' N') (fun y s₂ hq => ?_) fun _ _ e => e
      obtain ⟨h', tk', tl', e, F'', N'', off', hp⟩ := hq
      have e9 := List.append_assoc news tl tl'
      refine ⟨h', tk', news ++ (tl ++ tl'), e, F'', e9 ▸ N'', e9 ▸ off3_app off off', trivial, ih (i + 1) _ (tl ++ tl') (by omega) (.snoc (hy.mono fun a z hz => hP _ _ _ _ hz fun p hp => ?_) (e9 ▸ hp))⟩
      rw [← e9]
      exact List.mem_append_left _ hp
  have h0 := key n 0 [] [] (by omega) .nil
  rw [List.append_nil] at h0
  exact h0
end
theorem letE9 {M : Model} {A : Around} {body : List Stmt} {env : Env} {Q : Flow → Shared → Prop} {E : Value → Shared → Prop} {s : Shared} (h : let e9 := env; let A9 := A; let E9 := E; wpAny M A9 (execs body e9) Q E9 s) : wpAny M A (execs body env) Q E s := h
def CutPostV (s : Shared) (R : Value → Heap → Prop) (v : Value) (s' : Shared) : Prop := ∃ (h' : Heap) (tk' : Nat), s' = { s with heap := h', toks := tk' } ∧ R v h'
theorem CutPostV.intro {s : Shared} {R : Value → Heap → Prop} {v : Value} {h' : Heap} {tk' : Nat} (r : R v h') : CutPostV s R v { s with heap := h', toks := tk' } := ⟨h', tk', rfl, r⟩
theorem cutV {prog : Program} {w : World} {A : Around} {E : Value → Shared → Prop} {s : Shared} {e : Expr} {env : Env} {Q : Value → Shared → Prop} (R : Value → Heap → Prop) (h1 : wpAny (model prog w) A (eval e env) (CutPostV s R) E s) (h2 : ∀ v h' tk', R v h' → Q v { s with heap := h', toks := tk' }) : wpAny (model prog w) A (eval e env) Q E s := by
  refine wpAny_mono h1 (fun v s' hq => ?_) fun _ _ e => e
  obtain ⟨h', tk', rfl, r⟩ := hq
  exact h2 v h' tk' r
-- F5
theorem offs1 {D : Addr} {o : Obj} {news : List (Addr × Obj)} (h : ∀ p ∈ [(D, o)], LCg.Off1 p.1 news) : LCg.Off1 D news := h _ (.head _)
theorem ne_ch {a b : Nat} (h : (ch a != ch b) = true) : ¬ a = b := by
  intro e; rw [e] at h; simp at h
theorem eq_ch {a b : Nat} (h : (ch a != ch b) = false) : a = b := by
  have : ch a = ch b := by simpa using h
  exact ch_inj.mp this
theorem apart_C (w : World) (f g : Nat → Nat) (t0 t1 : Tok) :
    Says 14 w 139 [.str (rowF f) t0, .str (rowF g) t1] []
      (fun r tl => ∃ D D1 D2 M U, r = .ref D ∧ tl = [(D, tupO #[.ref D1, .ref D2]), (D1, LCg.lst M), (D2, LCg.lst U)] ∧ TA M (df f g 4) ∧ TA U (df g f 4)) := by
  unfold Says
  k_fill
  intro mean mg mb dp un gd cn cs a ccd cl outer A₀ base h₀ L m news s Q E B F X Nn T hk hd hu hs hret
  have N := cb_drop Nn hs
  refine wpAny_call ?_
  k_dflt (refine' enterCH (binds := [(Str.ofString "before", .str (rowF f) t0), (Str.ofString "behind", .str (rowF g) t1)]) ?k1 ?k2 ?k3 ?k4 ?k5 ?kA ?kF ?kK ?k6 ?k7 ?k8 ?k9 ?kB ?kD ?_ ?c2 ?c3 ?c4; (case kA => exact rfl); (case kF => exact rfl); (case kK => assumption); (case k1 => k_asm); (case k2 => k_asm); (case k3 => k_asm); (case k4 => exact N); (case k5 => k_asm); (case k6 => k_is); (case k7 => k_is); (case k8 => ktr_room); (case k9 => exact BindsTo.of_eq rfl); (case kB => exact rfl); (case kD => decide +kernel); (case c2 => exact rfl); (case c3 => exact rfl); (case c4 => exact rfl); k_whole; intro g' L' h' tk' cells' FG' F' N' Y' B' X' T' l1 K9; clear N; (try k_lt l1); k_cells Y'; (try simp only [List.cons_append, List.nil_append] at N'); (try dsimp only); (try k_fold))
  repeat ((fail_if_success (with_reducible show LCt.CompSrcT _ _ _ _ _ _ _ _ _ _ _ _ _ _ _)); (first | (k_unfold; (try dsimp only)) | (k_end; wrow_close) | ((with_reducible show wpAny _ _ (call (Value.ref 134) _) _ _ _); (k_here; k_dflt (refine' Says.use (marks_G _ _ _ _ _ _ _ (by assumption) (plc_bd _ _) (by assumption)) ?k1 ?k2 ?k3 ?k4 ?k5 ?kK ?kd ?ku ?ks ?_; (case k1 => k_asm); (case k2 => k_asm); (case k3 => k_asm); (case k4 => k_asm); (case k5 => k_asm); (case kK => first | exact rfl | assumption); (case ks => first | exact List.forall_mem_nil _ | (refine List.forall_mem_cons.mpr ⟨by k_mem, ?_⟩; first | exact List.forall_mem_nil _ | (refine List.forall_mem_cons.mpr ⟨by k_mem, ?_⟩; exact List.forall_mem_nil _))); (case kd => first | exact lvl (by assumption) (by decide) | decide); (case ku => first | exact lvlU (by assumption) (by decide) | decide); k_whole); intro r9 tl9 h9 tk9 hp9 F9 N9 o9; obtain ⟨D9, zs9, e9, e8, ta9⟩ := hp9; subst e9 e8; (replace o9 := offs1 o9); (try simp only [LCg.Off1, and_true] at o9); (repeat ((with_reducible rename _ ∧ _ => hA9); (have hA1 := And.left hA9); (have hA2 := And.right hA9); clear hA9)); (try simp only [List.cons_append, List.nil_append] at N9); (try k_sweep); (try dsimp only))) | ((with_reducible show wpAny _ _ (exec (Stmt.Assign _ _ _) _) _ _ _); (k_here; k_dflt (refine LCt.Assign_ListComp_T (F₀ := by k_asm) (by rfl) (by with_unfolding_all rfl) (by with_unfolding_all rfl) (by decide) (by rfl) (by decide) (by rfl) (by rfl) (by rfl) ?_))) | ((k_here; (with_reducible show wpAny _ _ (subscriptTail _ _ (Value.str _ _) (Value.int _ _)) _ _ _); (k_dflt (refine' sitem ?sh0 ?shz ?shc ?_ ?shs; (case shs => with_unfolding_all rfl); (case sh0 => first | decide | omega); (case shz => exact Nat.le_of_ble_eq_true rfl); (case shc => first | exact rowF_get _ (by assumption) | exact dig _ (by assumption) | exact rfl); k_whole)); intro t9' tk9'; (try dsimp only))) | ((with_reducible show LCg.FinA _ _ _ _ _ _ _ _); ((unfold LCg.FinA); intro D' h' tk' F' N' o1'; (try simp only [LCg.Off1, and_true] at o1'); (try simp only [List.nil_append, List.cons_append] at N'); (repeat ((with_reducible rename _ ∧ _ => hA9); (have hA1 := And.left hA9); (have hA2 := And.right hA9); clear hA9)); (try dsimp only))) | ((with_reducible show LCg.FinE _ _ _ _ _ _ _); ((unfold LCg.FinE); intro D' h' tk' F' N' o1'; (try simp only [LCg.Off1, and_true] at o1'); (try simp only [List.nil_append, List.cons_append] at N'); (repeat ((with_reducible rename _ ∧ _ => hA9); (have hA1 := And.left hA9); (have hA2 := And.right hA9); clear hA9)); (try dsimp only))) | ((with_reducible show LCg.CompRest _ _ _ _ _ _ _ _ _ _ _ _ _ _ _ _ _ _ _); (with_unfolding_all first | (refine LCg.CompRest.succ ?_; intro v' I' oI' C' oC' D' m' h' tk' E' hv' hC' hx' F' N' off' ne'; (first | lcg_open hv' | (obtain ⟨t9', hv9'⟩ := hv'; subst hv9')); (try simp only [LCg.Off3, and_true] at off'); (repeat ((with_reducible rename _ ∧ _ => hA9); (have hA1 := And.left hA9); (have hA2 := And.right hA9); clear hA9))) | refine LCg.CompRest.zero ?_)) | walk1 | (dsimp only; walk1)))
  refine LCt.CompSrcT.range (n := 4) (by rfl) (by k_asm) (by k_asm) (by assumption) (by first | decide | rfl) (by first | rfl | decide) (by first | size_fits | exact Nat.le_of_ble_eq_true rfl) ?_
  intro g8
  refine' kci_range (Gp f g) ?turn ?fin (Gp_grows f g)
  case turn =>
    intro k t I oI C oC D m2 ys l8 h8 tk8 E8 hlo hhi hI hC hx F8 N8 off8 ne8 mk8
    obtain ⟨p, rfl⟩ := Int.eq_ofNat_of_zero_le hlo
    have hp : p < 4 := by omega
    clear hlo hhi
    simp only [LCg.Off3, and_true] at off8
    (repeat ((with_reducible rename _ ∧ _ => hA9); (have hA1 := And.left hA9); (have hA2 := And.right hA9); clear hA9))
    (repeat' (first | (k_unfold; (try dsimp only)) | (k_end; wrow_close) | ((with_reducible show wpAny _ _ (call (Value.ref 134) _) _ _ _); (k_here; k_dflt (refine' Says.use (marks_G _ _ _ _ _ _ _ (by assumption) (plc_bd _ _) (by assumption)) ?k1 ?k2 ?k3 ?k4 ?k5 ?kK ?kd ?ku ?ks ?_; (case k1 => k_asm); (case k2 => k_asm); (case k3 => k_asm); (case k4 => k_asm); (case k5 => k_asm); (case kK => first | exact rfl | assumption); (case ks => first | exact List.forall_mem_nil _ | (refine List.forall_mem_cons.mpr ⟨by k_mem, ?_⟩; first | exact List.forall_mem_nil _ | (refine List.forall_mem_cons.mpr ⟨by k_mem, ?_⟩; exact List.forall_mem_nil _))); (case kd => first | exact lvl (by assumption) (by decide) | decide); (case ku => first | exact lvlU (by assumption) (by decide) | decide); k_whole); intro r9 tl9 h9 tk9 hp9 F9 N9 o9; obtain ⟨D9, zs9, e9, e8, ta9⟩ := hp9; subst e9 e8; (replace o9 := offs1 o9); (try simp only [LCg.Off1, and_true] at o9); (repeat ((with_reducible rename _ ∧ _ => hA9); (have hA1 := And.left hA9); (have hA2 := And.right hA9); clear hA9)); (try simp only [List.cons_append, List.nil_append] at N9); (try k_sweep); (try dsimp only))) | ((with_reducible show wpAny _ _ (exec (Stmt.Assign _ _ _) _) _ _ _); (k_here; k_dflt (refine LCt.Assign_ListComp_T (F₀ := by k_asm) (by rfl) (by with_unfolding_all rfl) (by with_unfolding_all rfl) (by decide) (by rfl) (by decide) (by rfl) (by rfl) (by rfl) ?_))) | ((k_here; (with_reducible show wpAny _ _ (subscriptTail _ _ (Value.str _ _) (Value.int _ _)) _ _ _); (k_dflt (refine' sitem ?sh0 ?shz ?shc ?_ ?shs; (case shs => with_unfolding_all rfl); (case sh0 => first | decide | omega); (case shz => exact Nat.le_of_ble_eq_true rfl); (case shc => first | exact rowF_get _ (by assumption) | exact dig _ (by assumption) | exact rfl); k_whole)); intro t9' tk9'; (try dsimp only))) | ((with_reducible show LCg.FinA _ _ _ _ _ _ _ _); ((unfold LCg.FinA); intro D' h' tk' F' N' o1'; (try simp only [LCg.Off1, and_true] at o1'); (try simp only [List.nil_append, List.cons_append] at N'); (repeat ((with_reducible rename _ ∧ _ => hA9); (have hA1 := And.left hA9); (have hA2 := And.right hA9); clear hA9)); (try dsimp only))) | ((with_reducible show LCg.FinE _ _ _ _ _ _ _); ((unfold LCg.FinE); intro D' h' tk' F' N' o1'; (try simp only [LCg.Off1, and_true] at o1'); (try simp only [List.nil_append, List.cons_append] at N'); (repeat ((with_reducible rename _ ∧ _ => hA9); (have hA1 := And.left hA9); (have hA2 := And.right hA9); clear hA9)); (try dsimp only))) | ((with_reducible show LCg.CompRest _ _ _ _ _ _ _ _ _ _ _ _ _ _ _ _ _ _ _); (with_unfolding_all first | (refine LCg.CompRest.succ ?_; intro v' I' oI' C' oC' D' m' h' tk' E' hv' hC' hx' F' N' off' ne'; (first | lcg_open hv' | (obtain ⟨t9', hv9'⟩ := hv'; subst hv9')); (try simp only [LCg.Off3, and_true] at off'); (repeat ((with_reducible rename _ ∧ _ => hA9); (have hA1 := And.left hA9); (have hA2 := And.right hA9); clear hA9))) | refine LCg.CompRest.zero ?_)) | walk1 | (dsimp only; walk1) | (leave1; walk_say "STEP leave1"; try dsimp only) | fail "no step"))
    all_goals first
      | exact kci_el (by unfold Gp; rw [if_neg (ne_ch (by assumption))]) rfl rfl
      | exact kci_no (by unfold Gp; rw [if_pos (eq_ch (by assumption))]) rfl
  case fin =>
    show ∀ ys, IntsAre ys (plc f g) → _
    intro ys hI hl
    (repeat' (first | (k_unfold; (try dsimp only)) | (k_end; wrow_close) | ((with_reducible show wpAny _ _ (call (Value.ref 134) _) _ _ _); (k_here; k_dflt (refine' Says.use (marks_G _ _ _ _ _ _ _ (by assumption) (plc_bd _ _) (by assumption)) ?k1 ?k2 ?k3 ?k4 ?k5 ?kK ?kd ?ku ?ks ?_; (case k1 => k_asm); (case k2 => k_asm); (case k3 => k_asm); (case k4 => k_asm); (case k5 => k_asm); (case kK => first | exact rfl | assumption); (case ks => first | exact List.forall_mem_nil _ | (refine List.forall_mem_cons.mpr ⟨by k_mem, ?_⟩; first | exact List.forall_mem_nil _ | (refine List.forall_mem_cons.mpr ⟨by k_mem, ?_⟩; exact List.forall_mem_nil _))); (case kd => first | exact lvl (by assumption) (by decide) | decide); (case ku => first | exact lvlU (by assumption) (by decide) | decide); k_whole); intro r9 tl9 h9 tk9 hp9 F9 N9 o9; obtain ⟨D9, zs9, e9, e8, ta9⟩ := hp9; subst e9 e8; (replace o9 := offs1 o9); (try simp only [LCg.Off1, and_true] at o9); (repeat ((with_reducible rename _ ∧ _ => hA9); (have hA1 := And.left hA9); (have hA2 := And.right hA9); clear hA9)); (try simp only [List.cons_append, List.nil_append] at N9); (try k_sweep); (try dsimp only))) | ((with_reducible show wpAny _ _ (exec (Stmt.Assign _ _ _) _) _ _ _); (k_here; k_dflt (refine LCt.Assign_ListComp_T (F₀ := by k_asm) (by rfl) (by with_unfolding_all rfl) (by with_unfolding_all rfl) (by decide) (by rfl) (by decide) (by rfl) (by rfl) (by rfl) ?_))) | ((k_here; (with_reducible show wpAny _ _ (subscriptTail _ _ (Value.str _ _) (Value.int _ _)) _ _ _); (k_dflt (refine' sitem ?sh0 ?shz ?shc ?_ ?shs; (case shs => with_unfolding_all rfl); (case sh0 => first | decide | omega); (case shz => exact Nat.le_of_ble_eq_true rfl); (case shc => first | exact rowF_get _ (by assumption) | exact dig _ (by assumption) | exact rfl); k_whole)); intro t9' tk9'; (try dsimp only))) | ((with_reducible show LCg.FinA _ _ _ _ _ _ _ _); ((unfold LCg.FinA); intro D' h' tk' F' N' o1'; (try simp only [LCg.Off1, and_true] at o1'); (try simp only [List.nil_append, List.cons_append] at N'); (repeat ((with_reducible rename _ ∧ _ => hA9); (have hA1 := And.left hA9); (have hA2 := And.right hA9); clear hA9)); (try dsimp only))) | ((with_reducible show LCg.FinE _ _ _ _ _ _ _); ((unfold LCg.FinE); intro D' h' tk' F' N' o1'; (try simp only [LCg.Off1, and_true] at o1'); (try simp only [List.nil_append, List.cons_append] at N'); (repeat ((with_reducible rename _ ∧ _ => hA9); (have hA1 := And.left hA9); (have hA2 := And.right hA9); clear hA9)); (try dsimp only))) | ((with_reducible show LCg.CompRest _ _ _ _ _ _ _ _ _ _ _ _ _ _ _ _ _ _ _); (with_unfolding_all first | (refine LCg.CompRest.succ ?_; intro v' I' oI' C' oC' D' m' h' tk' E' hv' hC' hx' F' N' off' ne'; (first | lcg_open hv' | (obtain ⟨t9', hv9'⟩ := hv'; subst hv9')); (try simp only [LCg.Off3, and_true] at off'); (repeat ((with_reducible rename _ ∧ _ => hA9); (have hA1 := And.left hA9); (have hA2 := And.right hA9); clear hA9))) | refine LCg.CompRest.zero ?_)) | walk1 | (dsimp only; walk1) | (leave1; walk_say "STEP leave1"; try dsimp only) | fail "no step"))
    refine fin3 Nn hs K9 hret (by assumption) (by assumption) (by assumption) (by assumption) (List.forall_mem_nil _) (by k_mem) (by k_mem) (by k_mem) (List.forall_mem_nil _) (List.forall_mem_nil _) (List.forall_mem_nil _) ⟨_, _, _, _, _, rfl, rfl, ?_, ?_⟩
    · rw [← plc_df1]; assumption
    · rw [← plc_df2]; assumption
-- G1
theorem round_S (w : World) (l : Addr) (o : Obj) (f : Nat → Nat → Nat) (hS : SO 4 (fun i => rowF (f i)) o) :
    Says 12 w 119 [.ref l] [(l, o)] (fun r tl => ∃ D o', r = .ref D ∧ tl = [(D, o')] ∧ SO 4 (fun i => rowF (onceR f i)) o') := by
  unfold Says
  k_fill
  intro mean mg mb dp un gd cn cs a ccd cl outer A₀ base h₀ L m news s Q E B F X Nn T hk hd hu hs hret
  have N := cb_drop Nn hs
  refine wpAny_call ?_
  k_dflt (refine' enterCL (binds := [(Str.ofString "rows", .ref l)]) ?k1 ?k2 ?k3 ?k4 ?k5 ?kA ?kF ?kK ?k6 ?k7 ?k8 ?k9 ?kB ?kD ?_ ?c2 ?c3 ?c4; (case kA => exact rfl); (case kF => exact rfl); (case kK => assumption); (case k1 => k_asm); (case k2 => k_asm); (case k3 => k_asm); (case k4 => exact N); (case k5 => k_asm); (case k6 => k_is); (case k7 => k_is); (case k8 => ktr_room); (case k9 => exact BindsTo.of_eq rfl); (case kB => exact rfl); (case kD => decide +kernel); (case c2 => exact rfl); (case c3 => exact rfl); (case c4 => exact rfl); k_whole; intro g' L' h' tk' cells' FG' F' N' Y' B' X' T' l1 K9 e9 A9 E9; clear N; (try k_lt l1); k_cells Y'; (try dsimp only [List.cons_append, List.nil_append] at N'); (try dsimp only); (try k_fold))
  repeat ((fail_if_success (with_reducible show wpAny _ _ (pyIter _) _ _ _)); (first | (k_unfold; (try dsimp only)) | (k_end; wrow_close) | ((with_reducible show wpAny _ _ (exec (Stmt.For _ _ _ _ _) _) _ _ _); (rename Fr _ _ _ _ => lF'); (with_unfolding_all refine' For_turns lF' ?_; k_whole)) | ((with_reducible show wpAny _ _ (exec _ _) _ _ _); refine absQ ?_; intro Q9 hQ9; walk1) | walk1 | (dsimp only; walk1) | ((with_reducible refine absQ_end (by with_reducible assumption) ?_); (try dsimp only))))
  k_dflt (refine' iter_round (onceR f) ?z0 ?z1 ?z2 ?z3 ?z5 ?z6 ?z8 ?zt ?zf; (case z0 => with_unfolding_all rfl); (case z1 => assumption); (case z2 => k_asm); (case z3 => k_asm); (case z5 => exact ⟨_, by assumption⟩); (case z6 => exact rfl); (case z8 => exact rfl))
  case zt =>
    intro I k t oI m' its o1 h tk lS lc ll hk4 hlen hy ho1 hK F' N'
    obtain ⟨v1, ho1⟩ := ho1
    replace lS := ltN lS
    replace lc := ltN lc
    replace ll := ltN ll
    rw [kp2_open hK] at F'
    clear hK
    repeat ((fail_if_success (with_reducible show wpAny _ _ (eval (Expr.ListComp _ _ _ _) _) _ _ _)); (first | (k_unfold; (try dsimp only)) | (k_end; wrow_close) | ((with_reducible show wpAny _ _ (subscriptTail _ (Expr.Slice none (some _) none _) (Value.ref _) (Value.ref _)) _ _ _); k_dflt (refine' so_lo ?s1 ?s2 ?s3 ?s4 ?s5 ?s6 ?_ ?s7 ?s8; (case s1 => k_asm); (case s2 => k_asm); (case s3 => k_mem); (case s4 => assumption); (case s5 => assumption); (case s6 => decide); (case s7 => with_unfolding_all rfl); (case s8 => kmk_pure)); intro D' o' h' hA' F' N') | ((with_reducible show wpAny _ _ (subscriptTail _ (Expr.Slice (some _) none none _) (Value.ref _) (Value.ref _)) _ _ _); k_dflt (refine' so_hi ?s1 ?s2 ?s3 ?s4 ?s5 ?s6 ?_ ?s7 ?s8; (case s1 => k_asm); (case s2 => k_asm); (case s3 => k_mem); (case s4 => assumption); (case s5 => assumption); (case s6 => decide); (case s7 => with_unfolding_all rfl); (case s8 => kmk_pure)); intro D' o' h' hB' F' N') | ((with_reducible show wpAny _ _ (binaryOp _ (Value.ref _) (Value.ref _)) _ _ _); k_dflt (refine' so_rest ?s1 ?s2 ?s5 ?s6 ?s7 ?_; (case s1 => k_asm); (case s2 => k_asm); (case s6 => assumption); (case s7 => assumption); (case s5 => assumption)); intro D' o' h' hR' F' N' l1; k_lt l1) | ((with_reducible show wpAny _ _ (exec _ _) _ _ _); refine absQ ?_; intro Q9 hQ9; walk1) | walk1 | (dsimp only; walk1) | ((with_reducible refine absQ_end (by with_reducible assumption) ?_); (try dsimp only))))
    k_dflt (refine' ListComp_cellF (n := 4) (fun i y => ∃ t, y = .str (ch (onceR f k i)) t) ?qF ?q1 ?q2 ?q3 ?q4 ?q5 ?q6 ?_ ?q7; (case qF => k_asm); (case q1 => with_unfolding_all rfl); (case q2 => intro k; rfl); (case q3 => intro h; rfl); (case q4 => rfl); (case q5 => decide); (case q6 => intro c C; rfl); (case q7 => intro _; rfl))
    repeat ((fail_if_success (with_reducible show CellTurns _ _ _ _ _ _ _ _ _ _ _ _ _ _ _)); (first | (k_unfold; (try dsimp only)) | (k_end; wrow_close) | ((with_reducible show wpAny _ _ (exec _ _) _ _ _); refine absQ ?_; intro Q9 hQ9; walk1) | walk1 | (dsimp only; walk1) | ((with_reducible refine absQ_end (by with_reducible assumption) ?_); (try dsimp only))))
    k_dflt (refine' ⟨_, _, _, _, _, rfl, ?c0, ?c1, ?c2, ?c3, ?c4, ?c5, ?c6, ?ct, ?cf⟩; (case c0 => with_unfolding_all rfl); (case c1 => k_asm); (case c2 => k_asm); (case c3 => assumption); (case c4 => first | decide | rfl); (case c5 => first | rfl | decide); (case c6 => first | size_fits | exact Nat.le_of_ble_eq_true rfl))
    case ct =>
      intro I D C c l1 l2 l3 l4 i t oI oC oc ys h tk E hi hoc F' N'
      clear l1 l2 l3 l4
      repeat ((fail_if_success (with_reducible show LCg.CompSrc _ _ _ _ _ _ _ _ _ _ _ _ _ _)); (first | (k_unfold; (try dsimp only)) | (k_end; wrow_close) | ((with_reducible show wpAny _ _ (eval (Expr.ListComp _ _ _ _) _) _ _ _); k_dflt (refine LCg.ListComp_U (F₀ := by k_asm) (by rfl) (by decide) (by rfl) (by decide) (by rfl) ?_)) | ((with_reducible show wpAny _ _ (exec _ _) _ _ _); refine absQ ?_; intro Q9 hQ9; walk1) | walk1 | (dsimp only; walk1) | ((with_reducible refine absQ_end (by with_reducible assumption) ?_); (try dsimp only))))
      refine' so_src (fun a y => ∃ t, y = .str (ch (f (dk k a) i)) t) ?a0 ?a1 ?a2 ?a3 ?a4 ?a5 ?dt ?df
      case a0 => with_unfolding_all rfl
      case a1 => k_asm
      case a2 => k_asm
      case a4 => assumption
      case a3 => k_mem
      case a5 => decide
      case dt =>
        intro g9 a t I oI C oC D m2 h8 tk8 E8 ys8 ha hC hx F8 N8
        (repeat' (first | (k_unfold; (try dsimp only)) | (k_end; wrow_close) | ((with_reducible show wpAny _ _ (subscriptTail _ _ (Value.str _ _) (Value.int _ _)) _ _ _); (k_dflt (refine' sitem ?sh0 ?shz ?shc ?_ ?shs; (case shs => with_unfolding_all rfl); (case sh0 => first | decide | omega); (case shz => exact Nat.le_of_ble_eq_true rfl); (case shc => first | exact rowF_get _ (by assumption) | exact rfl); k_whole)); intro t9' tk9'; (try dsimp only)) | ((with_reducible show wpAny _ _ (exec _ _) _ _ _); refine absQ ?_; intro Q9 hQ9; walk1) | walk1 | (dsimp only; walk1) | ((with_reducible refine absQ_end (by with_reducible assumption) ?_); (try dsimp only)) | (leave1; walk_say "STEP leave1"; try dsimp only) | fail "no step"))
        exact CellPost.intro (by k_asm) N8 (fun _ q => q) ⟨_, rfl⟩
      case df =>
        intro g9 ys hys
        have hC := hys.so
        (repeat' (first | (k_unfold; (try dsimp only)) | (k_end; wrow_close) | ((with_reducible show LCg.FinE _ _ _ _ _ _ _); (unfold LCg.FinE); intro D' h' tk' F' N' o1'; (try dsimp only [LCg.Off1] at o1'); (repeat ((with_reducible rename _ ∧ _ => hA9); (have hA1 := And.left hA9); (have hA2 := And.right hA9); clear hA9))) | ((with_reducible show wpAny _ _ (call (Value.ref 34) _) _ _ _); k_dflt (refine' Says.use (median_S _ _ _ (fun a => f (dk k a) i) hC) ?k1 ?k2 ?k3 ?k4 ?k5 ?kK ?kd ?ku ?ks ?_; (case k1 => k_asm); (case k2 => k_asm); (case k3 => k_asm); (case k4 => k_asm); (case k5 => k_asm); (case kK => first | exact rfl | assumption); (case ks => (first | exact List.forall_mem_nil _ | (refine List.forall_mem_cons.mpr ⟨by k_mem, ?_⟩; first | exact List.forall_mem_nil _ | (refine List.forall_mem_cons.mpr ⟨by k_mem, ?_⟩; exact List.forall_mem_nil _)))); (case kd => first | exact lvl (by assumption) (by decide) | decide); (case ku => first | exact lvlU (by assumption) (by decide) | decide); k_whole); intro r9 tl9 h9 tk9 hp9 F9 N9 o9; obtain ⟨⟨t9, e9⟩, e8⟩ := hp9; subst e9 e8; clear o9; (try dsimp only [List.nil_append] at N9); (try k_sweep); (try dsimp only)) | ((with_reducible show wpAny _ _ (exec _ _) _ _ _); refine absQ ?_; intro Q9 hQ9; walk1) | walk1 | (dsimp only; walk1) | ((with_reducible refine absQ_end (by with_reducible assumption) ?_); (try dsimp only)) | (leave1; walk_say "STEP leave1"; try dsimp only) | fail "no step"))
        exact CellPost.intro (by k_asm) (by k_asm) (by lcg_sub) ⟨_, rfl⟩
    case cf =>
      intro D h tk ys hys F' N' l1
      have hC := hys.so
      k_lt l1
      (repeat' (first | (k_unfold; (try dsimp only)) | (k_end; wrow_close) | ((with_reducible show wpAny _ _ (call (Value.builtin "str.join") _) _ _ _); (k_dflt (refine' so_join (f := onceR f k) ?j1 ?j2 ?j3 ?_; (case j1 => k_asm); (case j2 => k_mem); (case j3 => assumption); k_whole)); intro t9' tk9'; (try dsimp only)) | ((with_reducible show wpAny _ _ (call (Value.builtin "list.append") [Value.ref _, _]) _ _ _); k_dflt (refine' append_K ?k1 ?k2 ?k3 ?_ ?z; (case k1 => k_asm); (case k2 => k_asm); (case k3 => k_upd); (case z => first | size_fits | (show List.length _ ≤ sizeLine; rw [sizeLine_eq]; omega)); k_whole); intro h' F' N'; (try k_sweep)) | ((with_reducible show wpAny _ _ (exec _ _) _ _ _); refine absQ ?_; intro Q9 hQ9; walk1) | walk1 | (dsimp only; walk1) | ((with_reducible refine absQ_end (by with_reducible assumption) ?_); (try dsimp only)) | (leave1; walk_say "STEP leave1"; try dsimp only) | fail "no step"))
      exact LPost.intro (by k_asm) (by k_asm) [(_, LCg.lst (its ++ [_])), _, _] (by rw [← LCg.lst_snoc]; lcg_sub) rfl ⟨_, _, rfl, hy.snoc ⟨_, rfl⟩, ⟨_, by assumption⟩, rfl, rfl⟩
  case zf =>
    intro m' its o1 h tk hC hK F' N'
    rw [kp2_open hK] at F'
    clear hK
    (repeat' (first | (k_unfold; (try dsimp only)) | (k_end; wrow_close) | ((with_reducible show wpAny _ _ (exec _ _) _ _ _); refine absQ ?_; intro Q9 hQ9; walk1) | walk1 | (dsimp only; walk1) | ((with_reducible refine absQ_end (by with_reducible assumption) ?_); (try dsimp only)) | (leave1; walk_say "STEP leave1"; try dsimp only) | fail "no step"))
    exact fin1 Nn hs K9 hret (by assumption) (by assumption) (by assumption) (by assumption) (List.forall_mem_cons.mpr ⟨by k_mem, List.forall_mem_nil _⟩) (by k_mem) (List.forall_mem_cons.mpr ⟨by k_ne, List.forall_mem_nil _⟩) ⟨_, _, rfl, rfl, hC⟩
-- G2
theorem calm_S (w : World) (l : Addr) (o : Obj) (f : Nat → Nat → Nat) (k : Nat) (t4 : Tok) (hS : SO 4 (fun i => rowF (f i)) o) (hk4 : k < 4) :
    Says 12 w 124 [.ref l, .int ((k : Nat) : Int) t4] [(l, o)] (fun r tl => (∃ t, r = .str (rowF (calmR f k)) t) ∧ tl = []) := by
  unfold Says
  k_fill
  intro mean mg mb dp un gd cn cs a ccd cl outer A₀ base h₀ L m news s Q E B F X Nn T hk hd hu hs hret
  have N := cb_drop Nn hs
  refine wpAny_call ?_
  k_dflt (refine' enterCL (binds := [(Str.ofString "rows", .ref l), (Str.ofString "k", .int ((k : Nat) : Int) t4)]) ?k1 ?k2 ?k3 ?k4 ?k5 ?kA ?kF ?kK ?k6 ?k7 ?k8 ?k9 ?kB ?kD ?_ ?c2 ?c3 ?c4; (case kA => exact rfl); (case kF => exact rfl); (case kK => assumption); (case k1 => k_asm); (case k2 => k_asm); (case k3 => k_asm); (case k4 => exact N); (case k5 => k_asm); (case k6 => k_is); (case k7 => k_is); (case k8 => ktr_room); (case k9 => exact BindsTo.of_eq rfl); (case kB => exact rfl); (case kD => decide +kernel); (case c2 => exact rfl); (case c3 => exact rfl); (case c4 => exact rfl); k_whole; intro g' L' h' tk' cells' FG' F' N' Y' B' X' T' l1 K9 e9 A9 E9; clear N; (try k_lt l1); k_cells Y'; (try dsimp only [List.cons_append, List.nil_append] at N'); (try dsimp only); (try k_fold))
  repeat ((fail_if_success (with_reducible show wpAny _ _ (pyIter _) _ _ _)); (first | (k_unfold; (try dsimp only)) | (k_end; wrow_close) | ((with_reducible show wpAny _ _ (exec (Stmt.For _ _ _ _ _) _) _ _ _); (rename Fr _ _ _ _ => lF'); (with_unfolding_all refine' For_turns lF' ?_; k_whole)) | ((with_reducible show wpAny _ _ (exec _ _) _ _ _); refine absQ ?_; intro Q9 hQ9; walk1) | walk1 | (dsimp only; walk1) | ((with_reducible refine absQ_end (by with_reducible assumption) ?_); (try dsimp only))))
  k_dflt (refine' iter_signs2 (calmR f k) ?z0 ?z1 ?z2 ?z3 ?z4 ?z5 ?z6 ?z7 ?z8 ?zt ?zf; (case z0 => with_unfolding_all rfl); (case z1 => assumption); (case z2 => k_asm); (case z3 => k_asm); (case z4 => exact ⟨_, by assumption⟩); (case z5 => exact ⟨_, by assumption⟩); (case z6 => exact rfl); (case z7 => exact rfl); (case z8 => exact rfl))
  case zt =>
    intro I i t oI m' its o2 o1 h tk lS lc2 lc ll hi hlen hy ho2 ho1 hK F' N'
    obtain ⟨v2, ho2⟩ := ho2
    obtain ⟨v1, ho1⟩ := ho1
    replace lS := ltN lS
    replace lc2 := ltN lc2
    replace lc := ltN lc
    replace ll := ltN ll
    rw [kp_open hK] at F'
    clear hK
    repeat ((fail_if_success (with_reducible show LCg.CompSrc _ _ _ _ _ _ _ _ _ _ _ _ _ _)); (first | (k_unfold; (try dsimp only)) | (k_end; wrow_close) | ((with_reducible show wpAny _ _ (subscriptTail _ _ (Value.str _ _) (Value.int _ _)) _ _ _); (k_dflt (refine' sitem ?sh0 ?shz ?shc ?_ ?shs; (case shs => with_unfolding_all rfl); (case sh0 => first | decide | omega); (case shz => exact Nat.le_of_ble_eq_true rfl); (case shc => first | exact rowF_get _ (by assumption) | exact rfl); k_whole)); intro t9' tk9'; (try dsimp only)) | ((with_reducible show wpAny _ _ (subscriptTail _ _ (Value.ref _) (Value.int _ _)) _ _ _); (k_dflt (refine' so_item ?i1 ?i2 ?i3 ?i4 ?i5 ?_ ?i6; (case i1 => k_asm); (case i2 => k_mem); (case i3 => assumption); (case i4 => assumption); (case i5 => decide); (case i6 => with_unfolding_all rfl); k_whole)); intro t9') | ((with_reducible show wpAny _ _ (exec (Stmt.Assign [_] (Expr.ListComp _ _ _ _) _) _) _ _ _); k_dflt (refine LCg.Assign_ListComp_U (F₀ := by k_asm) (by rfl) (by with_unfolding_all rfl) (by rfl) (by decide) (by rfl) (by decide) (by rfl) (by rfl) (by rfl) ?_)) | ((with_reducible show wpAny _ _ (subscriptTail _ (Expr.Slice none (some _) none _) (Value.ref _) (Value.ref _)) _ _ _); k_dflt (refine' so_lo ?s1 ?s2 ?s3 ?s4 ?s5 ?s6 ?_ ?s7 ?s8; (case s1 => k_asm); (case s2 => k_asm); (case s3 => k_mem); (case s4 => assumption); (case s5 => assumption); (case s6 => decide); (case s7 => with_unfolding_all rfl); (case s8 => kmk_pure)); intro D' o' h' hA' F' N') | ((with_reducible show wpAny _ _ (subscriptTail _ (Expr.Slice (some _) none none _) (Value.ref _) (Value.ref _)) _ _ _); k_dflt (refine' so_hi ?s1 ?s2 ?s3 ?s4 ?s5 ?s6 ?_ ?s7 ?s8; (case s1 => k_asm); (case s2 => k_asm); (case s3 => k_mem); (case s4 => assumption); (case s5 => assumption); (case s6 => decide); (case s7 => with_unfolding_all rfl); (case s8 => kmk_pure)); intro D' o' h' hB' F' N') | ((with_reducible show wpAny _ _ (binaryOp _ (Value.ref _) (Value.ref _)) _ _ _); k_dflt (refine' so_rest ?s1 ?s2 ?s5 ?s6 ?s7 ?_; (case s1 => k_asm); (case s2 => k_asm); (case s6 => assumption); (case s7 => assumption); (case s5 => assumption)); intro D' o' h' hR' F' N' l1; k_lt l1) | ((with_reducible show wpAny _ _ (exec _ _) _ _ _); refine absQ ?_; intro Q9 hQ9; walk1) | walk1 | (dsimp only; walk1) | ((with_reducible refine absQ_end (by with_reducible assumption) ?_); (try dsimp only))))
    refine' so_src (fun a y => ∃ t, y = .str (ch (f (dk k a) i)) t) ?a0 ?a1 ?a2 ?a3 ?a4 ?a5 ?ct ?cf
    case a0 => with_unfolding_all rfl
    case a1 => k_asm
    case a2 => k_asm
    case a4 => assumption
    case a3 => k_mem
    case a5 => decide
    case ct =>
      intro g9 a t I oI C oC D m2 h8 tk8 E8 ys8 ha hC hx F8 N8
      (repeat' (first | (k_unfold; (try dsimp only)) | (k_end; wrow_close) | ((with_reducible show wpAny _ _ (subscriptTail _ _ (Value.str _ _) (Value.int _ _)) _ _ _); (k_dflt (refine' sitem ?sh0 ?shz ?shc ?_ ?shs; (case shs => with_unfolding_all rfl); (case sh0 => first | decide | omega); (case shz => exact Nat.le_of_ble_eq_true rfl); (case shc => first | exact rowF_get _ (by assumption) | exact rfl); k_whole)); intro t9' tk9'; (try dsimp only)) | ((with_reducible show wpAny _ _ (exec _ _) _ _ _); refine absQ ?_; intro Q9 hQ9; walk1) | walk1 | (dsimp only; walk1) | ((with_reducible refine absQ_end (by with_reducible assumption) ?_); (try dsimp only)) | (leave1; walk_say "STEP leave1"; try dsimp only) | fail "no step"))
      exact CellPost.intro (by k_asm) N8 (fun _ q => q) ⟨_, rfl⟩
    case cf =>
      intro g9 ys hys
      have hC := hys.so
      clear hys
      repeat ((fail_if_success (with_reducible show LCg.CompSrc _ _ _ _ _ _ _ _ _ _ _ _ _ _)); (first | (k_unfold; (try dsimp only)) | (k_end; wrow_close) | ((with_reducible show LCg.FinA _ _ _ _ _ _ _ _); (unfold LCg.FinA); intro D' h' tk' F' N' o1'; (try dsimp only [LCg.Off1] at o1'); (repeat ((with_reducible rename _ ∧ _ => hA9); (have hA1 := And.left hA9); (have hA2 := And.right hA9); clear hA9))) | ((with_reducible show wpAny _ _ (eval (Expr.ListComp _ _ _ _) _) _ _ _); k_dflt (refine LCg.ListComp_U (F₀ := by k_asm) (by rfl) (by decide) (by rfl) (by decide) (by rfl) ?_)) | ((with_reducible show wpAny _ _ (exec _ _) _ _ _); refine absQ ?_; intro Q9 hQ9; walk1) | walk1 | (dsimp only; walk1) | ((with_reducible refine absQ_end (by with_reducible assumption) ?_); (try dsimp only))))
      refine' so_src (fun a y => ∃ t, y = .int (tw (f k i) (f (dk k a) i)) t) ?a0 ?a1 ?a2 ?a3 hC ?a5 ?ct ?cf
      case a0 => with_unfolding_all rfl
      case a1 => k_asm
      case a2 => k_asm
      case a3 => k_mem
      case a5 => decide
      case ct =>
        intro g9 a t I oI C oC D m2 h8 tk8 E8 ys8 ha hC hx F8 N8
        (repeat' (first | (k_unfold; (try dsimp only)) | (k_end; wrow_close) | ((with_reducible show wpAny _ _ (call (Value.ref 95) _) _ _ _); k_dflt (refine' Says.use (tw_C _ _ _ _ _) ?k1 ?k2 ?k3 ?k4 ?k5 ?kK ?kd ?ku ?ks ?_; (case k1 => k_asm); (case k2 => k_asm); (case k3 => k_asm); (case k4 => k_asm); (case k5 => k_asm); (case kK => first | exact rfl | assumption); (case ks => (first | exact List.forall_mem_nil _ | (refine List.forall_mem_cons.mpr ⟨by k_mem, ?_⟩; first | exact List.forall_mem_nil _ | (refine List.forall_mem_cons.mpr ⟨by k_mem, ?_⟩; exact List.forall_mem_nil _)))); (case kd => first | exact lvl (by assumption) (by decide) | decide); (case ku => first | exact lvlU (by assumption) (by decide) | decide); k_whole); intro r9 tl9 h9 tk9 hp9 F9 N9 o9; obtain ⟨⟨t9, e9⟩, e8⟩ := hp9; subst e9 e8; clear o9; (try dsimp only [List.nil_append] at N9); (try k_sweep); (try dsimp only)) | ((with_reducible show wpAny _ _ (exec _ _) _ _ _); refine absQ ?_; intro Q9 hQ9; walk1) | walk1 | (dsimp only; walk1) | ((with_reducible refine absQ_end (by with_reducible assumption) ?_); (try dsimp only)) | (leave1; walk_say "STEP leave1"; try dsimp only) | fail "no step"))
        exact CellPost.intro (by k_asm) (by k_asm) (fun _ q => q) ⟨_, rfl⟩
      case cf =>
        intro g9 ys hys
        repeat ((fail_if_success (with_reducible show wpAny _ _ (exec (Stmt.If _ _ _ _) _) _ _ _)); (first | (k_unfold; (try dsimp only)) | (k_end; wrow_close) | ((with_reducible show LCg.FinE _ _ _ _ _ _ _); (unfold LCg.FinE); intro D' h' tk' F' N' o1'; (try dsimp only [LCg.Off1] at o1'); (repeat ((with_reducible rename _ ∧ _ => hA9); (have hA1 := And.left hA9); (have hA2 := And.right hA9); clear hA9))) | ((with_reducible show wpAny _ _ (call (Value.builtin "sum") _) _ _ _); (k_dflt (refine' ys_sum3 ?j0 ?jF ?j1 ?j2 ?j3 ?_; (case j0 => with_unfolding_all rfl); (case jF => k_asm); (case j1 => k_asm); (case j2 => k_mem); (case j3 => assumption); k_whole)); intro h9' t9' tk9' F9' N9'; (try k_sweep); (try dsimp only)) | ((with_reducible show wpAny _ _ (exec _ _) _ _ _); refine absQ ?_; intro Q9 hQ9; walk1) | walk1 | (dsimp only; walk1) | ((with_reducible refine absQ_end (by with_reducible assumption) ?_); (try dsimp only))))
        k_dflt (refine' join_v (calmR f k i) ?zF ?zN ?zS ?zU ?zh ?_; (case zF => k_asm); (case zN => k_asm); (case zS => exact rfl); (case zU => k_updF))
        case zh =>
          (repeat' (first | (k_unfold; (try dsimp only)) | (k_end; wrow_close) | ((with_reducible show wpAny _ _ (call (Value.builtin "max") _) _ _ _); (k_dflt (refine' so_max3 ?j0 ?jF ?j1 ?j2 ?j3 ?_; (case j0 => with_unfolding_all rfl); (case jF => k_asm); (case j1 => k_asm); (case j2 => k_mem); (case j3 => assumption); k_whole)); intro h9' t9' tk9' F9' N9'; (try k_sweep); (try dsimp only)) | ((with_reducible show wpAny _ _ (call (Value.builtin "min") _) _ _ _); (k_dflt (refine' so_min3 ?j0 ?jF ?j1 ?j2 ?j3 ?_; (case j0 => with_unfolding_all rfl); (case jF => k_asm); (case j1 => k_asm); (case j2 => k_mem); (case j3 => assumption); k_whole)); intro h9' t9' tk9' F9' N9'; (try k_sweep); (try dsimp only)) | ((with_reducible show wpAny _ _ (call (Value.builtin "list.append") [Value.ref _, _]) _ _ _); k_dflt (refine' append_K ?k1 ?k2 ?k3 ?_ ?z; (case k1 => k_asm); (case k2 => k_asm); (case k3 => k_upd); (case z => first | size_fits | (show List.length _ ≤ sizeLine; rw [sizeLine_eq]; omega)); k_whole); intro h' F' N'; (try k_sweep)) | ((with_reducible show wpAny _ _ (exec _ _) _ _ _); refine absQ ?_; intro Q9 hQ9; walk1) | walk1 | (dsimp only; walk1) | ((with_reducible refine absQ_end (by with_reducible assumption) ?_); (try dsimp only)) | (leave1; walk_say "STEP leave1"; try dsimp only) | fail "no step"))
          all_goals (refine JPost.intro (by k_asm) (by k_asm) ?_; first | exact cm_hi (by assumption) | exact cm_lo (by assumption) (by assumption) | exact cm_no (by assumption) (by assumption))
        intro t9 h9 tk9 F9 N9
        (repeat' (first | (k_unfold; (try dsimp only)) | (k_end; wrow_close) | ((with_reducible show wpAny _ _ (exec _ _) _ _ _); refine absQ ?_; intro Q9 hQ9; walk1) | walk1 | (dsimp only; walk1) | ((with_reducible refine absQ_end (by with_reducible assumption) ?_); (try dsimp only)) | (leave1; walk_say "STEP leave1"; try dsimp only) | fail "no step"))
        exact LPost.intro (by k_asm) (by k_asm) [(_, LCg.lst (its ++ [_])), _, _, _] (by rw [← LCg.lst_snoc]; lcg_sub) rfl ⟨_, _, _, rfl, hy.snoc ⟨_, rfl⟩, ⟨_, by assumption⟩, ⟨_, by assumption⟩, rfl, rfl, rfl⟩
  case zf =>
    intro m' its o2 o1 h tk hC hK F' N'
    rw [kp_open hK] at F'
    clear hK
    (repeat' (first | (k_unfold; (try dsimp only)) | (k_end; wrow_close) | ((with_reducible show wpAny _ _ (call (Value.builtin "str.join") _) _ _ _); (k_dflt (refine' so_join ?j1 ?j2 ?j3 ?_; (case j1 => k_asm); (case j2 => k_mem); (case j3 => assumption); k_whole)); intro t9' tk9'; (try dsimp only)) | ((with_reducible show wpAny _ _ (exec _ _) _ _ _); refine absQ ?_; intro Q9 hQ9; walk1) | walk1 | (dsimp only; walk1) | ((with_reducible refine absQ_end (by with_reducible assumption) ?_); (try dsimp only)) | (leave1; walk_say "STEP leave1"; try dsimp only) | fail "no step"))
    exact fin0 Nn hs K9 hret (by assumption) (by assumption) (by assumption) (by assumption) (List.forall_mem_cons.mpr ⟨by k_mem, List.forall_mem_nil _⟩) ⟨⟨_, rfl⟩, rfl⟩
-- G3
theorem over_S (w : World) (l : Addr) (o : Obj) (f : Nat → Nat → Nat) (k : Nat) (t4 : Tok) (hS : SO 4 (fun i => rowF (f i)) o) (hk4 : k < 4) :
    Says 12 w 129 [.ref l, .int ((k : Nat) : Int) t4] [(l, o)] (fun r tl => (∃ t, r = .str (rowF (overR f k)) t) ∧ tl = []) := by
  unfold Says
  k_fill
  intro mean mg mb dp un gd cn cs a ccd cl outer A₀ base h₀ L m news s Q E B F X Nn T hk hd hu hs hret
  have N := cb_drop Nn hs
  refine wpAny_call ?_
  k_dflt (refine' enterCL (binds := [(Str.ofString "rows", .ref l), (Str.ofString "k", .int ((k : Nat) : Int) t4)]) ?k1 ?k2 ?k3 ?k4 ?k5 ?kA ?kF ?kK ?k6 ?k7 ?k8 ?k9 ?kB ?kD ?_ ?c2 ?c3 ?c4; (case kA => exact rfl); (case kF => exact rfl); (case kK => assumption); (case k1 => k_asm); (case k2 => k_asm); (case k3 => k_asm); (case k4 => exact N); (case k5 => k_asm); (case k6 => k_is); (case k7 => k_is); (case k8 => ktr_room); (case k9 => exact BindsTo.of_eq rfl); (case kB => exact rfl); (case kD => decide +kernel); (case c2 => exact rfl); (case c3 => exact rfl); (case c4 => exact rfl); k_whole; intro g' L' h' tk' cells' FG' F' N' Y' B' X' T' l1 K9 e9 A9 E9; clear N; (try k_lt l1); k_cells Y'; (try dsimp only [List.cons_append, List.nil_append] at N'); (try dsimp only); (try k_fold))
  repeat ((fail_if_success (with_reducible show wpAny _ _ (pyIter _) _ _ _)); (first | (k_unfold; (try dsimp only)) | (k_end; wrow_close) | ((with_reducible show wpAny _ _ (exec (Stmt.For _ _ _ _ _) _) _ _ _); (rename Fr _ _ _ _ => lF'); (with_unfolding_all refine' For_turns lF' ?_; k_whole)) | ((with_reducible show wpAny _ _ (exec _ _) _ _ _); refine absQ ?_; intro Q9 hQ9; walk1) | walk1 | (dsimp only; walk1) | ((with_reducible refine absQ_end (by with_reducible assumption) ?_); (try dsimp only))))
  k_dflt (refine' iter_signs (overR f k) ?z0 ?z1 ?z2 ?z3 ?z5 ?z6 ?z7 ?z8 ?zt ?zf; (case z0 => with_unfolding_all rfl); (case z1 => assumption); (case z2 => k_asm); (case z3 => k_asm); (case z5 => exact ⟨_, by assumption⟩); (case z6 => exact rfl); (case z7 => exact rfl); (case z8 => exact rfl))
  case zt =>
    intro I i t oI m' its o1 h tk lS lc ll hi hlen hy ho1 hK F' N'
    obtain ⟨v1, ho1⟩ := ho1
    replace lS := ltN lS
    replace lc := ltN lc
    replace ll := ltN ll
    rw [kp_open hK] at F'
    clear hK
    repeat ((fail_if_success (with_reducible show LCg.CompSrc _ _ _ _ _ _ _ _ _ _ _ _ _ _)); (first | (k_unfold; (try dsimp only)) | (k_end; wrow_close) | ((with_reducible show wpAny _ _ (exec _ _) _ _ _); refine absQ ?_; intro Q9 hQ9; walk1) | walk1 | (dsimp only; walk1) | ((with_reducible refine absQ_end (by with_reducible assumption) ?_); (try dsimp only))))
    refine' so_src (fun a y => ∃ t, y = .str (ch (f a i)) t) ?a0 ?a1 ?a2 ?a3 hS ?a5 ?ct ?cf
    case a0 => with_unfolding_all rfl
    case a1 => k_asm
    case a2 => k_asm
    case a3 => k_mem
    case a5 => decide
    case ct =>
      intro g9 a t I oI C oC D m2 h8 tk8 E8 ys8 ha hC hx F8 N8
      (repeat' (first | (k_unfold; (try dsimp only)) | (k_end; wrow_close) | ((with_reducible show wpAny _ _ (subscriptTail _ _ (Value.str _ _) (Value.int _ _)) _ _ _); (k_dflt (refine' sitem ?sh0 ?shz ?shc ?_ ?shs; (case shs => with_unfolding_all rfl); (case sh0 => first | decide | omega); (case shz => exact Nat.le_of_ble_eq_true rfl); (case shc => first | exact rowF_get _ (by assumption) | exact rfl); k_whole)); intro t9' tk9'; (try dsimp only)) | ((with_reducible show wpAny _ _ (exec _ _) _ _ _); refine absQ ?_; intro Q9 hQ9; walk1) | walk1 | (dsimp only; walk1) | ((with_reducible refine absQ_end (by with_reducible assumption) ?_); (try dsimp only)) | (leave1; walk_say "STEP leave1"; try dsimp only) | fail "no step"))
      exact CellPost.intro (by k_asm) N8 (fun _ q => q) ⟨_, rfl⟩
    case cf =>
      intro g9 ys hys
      have hC := hys.so
      clear hys
      repeat ((fail_if_success (with_reducible show wpAny _ _ (exec (Stmt.Expr _ _) _) _ _ _)); (first | (k_unfold; (try dsimp only)) | (k_end; wrow_close) | ((with_reducible show LCg.FinA _ _ _ _ _ _ _ _); (unfold LCg.FinA); intro D' h' tk' F' N' o1'; (try dsimp only [LCg.Off1] at o1'); (repeat ((with_reducible rename _ ∧ _ => hA9); (have hA1 := And.left hA9); (have hA2 := And.right hA9); clear hA9))) | ((with_reducible show wpAny _ _ (exec _ _) _ _ _); refine absQ ?_; intro Q9 hQ9; walk1) | walk1 | (dsimp only; walk1) | ((with_reducible refine absQ_end (by with_reducible assumption) ?_); (try dsimp only))))
      k_dflt (refine' join_v (overR f k i) ?zF ?zN ?zS ?zU ?zh ?_; (case zF => k_asm); (case zN => k_asm); (case zS => exact rfl); (case zU => k_updF))
      case zh =>
        (repeat' (first | (k_unfold; (try dsimp only)) | (k_end; wrow_close) | ((with_reducible show wpAny _ _ (subscriptTail _ _ (Value.str _ _) (Value.int _ _)) _ _ _); (k_dflt (refine' sitem ?sh0 ?shz ?shc ?_ ?shs; (case shs => with_unfolding_all rfl); (case sh0 => first | decide | omega); (case shz => exact Nat.le_of_ble_eq_true rfl); (case shc => first | exact rowF_get _ (by assumption) | exact rfl); k_whole)); intro t9' tk9'; (try dsimp only)) | ((with_reducible show wpAny _ _ (subscriptTail _ _ (Value.ref _) (Value.int _ _)) _ _ _); (k_dflt (refine' so_item ?i1 ?i2 ?i3 ?i4 ?i5 ?_ ?i6; (case i1 => k_asm); (case i2 => k_mem); (case i3 => assumption); (case i4 => assumption); (case i5 => decide); (case i6 => with_unfolding_all rfl); k_whole)); intro t9') | ((with_reducible show wpAny _ _ (call (Value.builtin "max") _) _ _ _); (k_dflt (refine' so_max4 ?j0 ?jF ?j1 ?j2 ?j3 ?_; (case j0 => with_unfolding_all rfl); (case jF => k_asm); (case j1 => k_asm); (case j2 => k_mem); (case j3 => assumption); k_whole)); intro h9' t9' tk9' F9' N9'; (try k_sweep); (try dsimp only)) | ((with_reducible show wpAny _ _ (call (Value.builtin "min") _) _ _ _); (k_dflt (refine' so_min4 ?j0 ?jF ?j1 ?j2 ?j3 ?_; (case j0 => with_unfolding_all rfl); (case jF => k_asm); (case j1 => k_asm); (case j2 => k_mem); (case j3 => assumption); k_whole)); intro h9' t9' tk9' F9' N9'; (try k_sweep); (try dsimp only)) | ((with_reducible show wpAny _ _ (call (Value.builtin "list.append") [Value.ref _, _]) _ _ _); k_dflt (refine' append_K ?k1 ?k2 ?k3 ?_ ?z; (case k1 => k_asm); (case k2 => k_asm); (case k3 => k_upd); (case z => first | size_fits | (show List.length _ ≤ sizeLine; rw [sizeLine_eq]; omega)); k_whole); intro h' F' N'; (try k_sweep)) | ((with_reducible show wpAny _ _ (exec _ _) _ _ _); refine absQ ?_; intro Q9 hQ9; walk1) | walk1 | (dsimp only; walk1) | ((with_reducible refine absQ_end (by with_reducible assumption) ?_); (try dsimp only)) | (leave1; walk_say "STEP leave1"; try dsimp only) | fail "no step"))
        all_goals (refine JPost.intro (by k_asm) (by k_asm) ?_; first | exact ov_t (by assumption) | exact ov_f (by assumption))
      intro t9 h9 tk9 F9 N9
      (repeat' (first | (k_unfold; (try dsimp only)) | (k_end; wrow_close) | ((with_reducible show wpAny _ _ (exec _ _) _ _ _); refine absQ ?_; intro Q9 hQ9; walk1) | walk1 | (dsimp only; walk1) | ((with_reducible refine absQ_end (by with_reducible assumption) ?_); (try dsimp only)) | (leave1; walk_say "STEP leave1"; try dsimp only) | fail "no step"))
      exact LPost.intro (by k_asm) (by k_asm) [(_, LCg.lst (its ++ [_])), _, _] (by rw [← LCg.lst_snoc]; lcg_sub) rfl ⟨_, _, rfl, hy.snoc ⟨_, rfl⟩, ⟨_, by assumption⟩, rfl, rfl, rfl⟩
  case zf =>
    intro m' its o1 h tk hC ho1 hK F' N'
    rw [kp_open hK] at F'
    clear hK
    (repeat' (first | (k_unfold; (try dsimp only)) | (k_end; wrow_close) | ((with_reducible show wpAny _ _ (call (Value.builtin "str.join") _) _ _ _); (k_dflt (refine' so_join ?j1 ?j2 ?j3 ?_; (case j1 => k_asm); (case j2 => k_mem); (case j3 => assumption); k_whole)); intro t9' tk9'; (try dsimp only)) | ((with_reducible show wpAny _ _ (exec _ _) _ _ _); refine absQ ?_; intro Q9 hQ9; walk1) | walk1 | (dsimp only; walk1) | ((with_reducible refine absQ_end (by with_reducible assumption) ?_); (try dsimp only)) | (leave1; walk_say "STEP leave1"; try dsimp only) | fail "no step"))
    exact fin0 Nn hs K9 hret (by assumption) (by assumption) (by assumption) (by assumption) (List.forall_mem_cons.mpr ⟨by k_mem, List.forall_mem_nil _⟩) ⟨⟨_, rfl⟩, rfl⟩
-- G6r
theorem sld_S (w : World) (l k : Addr) (o1 o2 : Obj) (f g : Nat → Nat) (hS1 : SO 4 (fun a => mk a (f a)) o1) (hS2 : SO 4 (fun a => mk a (g a)) o2) :
    SaysO 9 w 88 [.ref l, .ref k] [(l, o1), (k, o2)]
      (fun r tl => ∃ D D1 D2 M U c1 c2, r = .ref D ∧ tl = [(D, tupO #[.ref D1, .ref D2]), (D1, PySem.W.listOf M c1), (D2, PySem.W.listOf U c2)] ∧ TA M.toList (df f g 4) ∧ TA U.toList (df g f 4)) := by
  unfold SaysO
  k_fill
  intro mean mg mb dp un gd cn cs a ccd cl h₀ L m news s Q E F X Nn T hk hd hu hs hret
  have N := cb_drop Nn hs
  refine wpAny_call ?_
  k_dflt (refine' enterT (env := envX cn cs L a ccd cl) (binds := [(Str.ofString "expected", .ref l), (Str.ofString "actual", .ref k)]) ?k2 ?k3 ?k4 ?k5 ?kA ?kF ?kK ?k6 ?k7 ?k8 ?k9 ?kB ?_ ?c2 ?c3 ?c4 ?c5; (case kA => exact rfl); (case kF => exact rfl); (case kK => assumption); (case k2 => k_asm); (case k3 => k_asm); (case k4 => exact N); (case k5 => k_asm); (case k6 => k_is); (case k7 => k_is); (case k8 => ktr_room); (case k9 => exact BindsTo.of_eq rfl); (case c5 => decide); (case kB => exact locs rfl); (case c2 => exact rfl); (case c3 => exact rfl); (case c4 => exact rfl); k_whole; intro g' L' h' oL tiC' tiF' tiE' F' N' X' T' K9 l1 l2; clear N; (replace tiE' := TLgL.allNe_of tiE'); (try dsimp only [TLg.AllNe] at tiE'); (repeat ((with_reducible rename _ ∧ _ => hA9); (have hA1 := And.left hA9); (have hA2 := And.right hA9); clear hA9)); (try k_lt l1); (replace l2 := ltN l2); (try dsimp only [List.nil_append, List.cons_append] at N'); (try dsimp only); (try k_fold))
  repeat ((fail_if_success (with_reducible show WhlRest _ _ _ _ _ _ _ _ _ _ _)); (first | (k_unfold; (try dsimp only)) | (k_end; wrow_close) | ((with_reducible show wpAny _ _ (exec (Stmt.While _ _ _ _) _) _ _ _); k_dflt (refine whl_start 100 ?_)) | ((with_reducible show wpAny _ _ (exec _ _) _ _ _); refine absQ ?_; intro Q9 hQ9; walk1) | walk1 | (dsimp only; walk1) | ((with_reducible refine absQ_end (by with_reducible assumption) ?_); (try dsimp only))))
  k_dflt (refine' sld_cut3 _ _ _ _ l k L _ _ oL f g s ?hs ?h3 ?hstep; (case hs => (refine' SldAt.intro ?sF ?sN ?s1 ?s2 ?s3 ?s4 ?s5 ?s6 ?s7 ?s8 ?s9 ?s10 ?s11 .nil .nil; (case sF => k_asm); (case sN => k_asm); (case s5 => exact rfl); (case s6 => exact rfl); (case s1 => exact rfl); (case s2 => exact rfl); (case s3 => exact rfl); (case s4 => exact rfl); (case s7 => k_mem); (case s8 => k_mem); (case s9 => k_mem); (case s10 => k_mem); (case s11 => k_mem))))
  case h3 => as_aux_lemma =>
    obtain ⟨t0, t1, t2, t3, c1, rfl⟩ := hS1.four
    obtain ⟨u0, u1, u2, u3, c2, rfl⟩ := hS2.four
    intro s9 hP9
    obtain ⟨h9, tk9, m9, ti, tj, its1, its2, n1, n2, rfl, F9, N9, T1, T2⟩ := hP9
    have L1 : its1.toList.length ≤ 3 := T1.length ▸ df_len f g 3
    have L2 : its2.toList.length ≤ 3 := T2.length ▸ df_len g f 3
    (repeat' (first | (k_unfold; (try dsimp only)) | (k_end; wrow_close) | ((with_reducible show wpAny _ (Around.mark _ _) (subscriptTail _ _ (Value.ref _) (Value.int _ _)) _ _ _); k_dflt (refine' itemOutH ?hA ?N ?m ?d ?d2 ?l ?o ?lo ?hi ?_ ?s; (case hA => exact rfl); (case N => k_asm); (case m => k_mem); (case d => assumption); (case d2 => assumption); (case l => k_mem); (case o => first | decide | (show ((4 : Nat) : Int) ≤ _; omega)); (case lo => first | decide | omega); (case hi => first | decide | omega); (case s => with_unfolding_all rfl)); intro h' tk' e' tiX') | ((with_reducible show wpAny _ _ (call (Value.builtin "list.extend") [Value.ref _, Value.ref _]) _ _ _); k_dflt (first | (refine' ext0 ?F ?N ?b ?e ?U ?_; (case F => k_asm); (case N => k_asm); (case b => k_mem); (case U => k_upd); (case e => (first | omega | (simp only [Array.toList_push, List.length_append, List.length_singleton]; omega)))) | (refine' ext1 ?F ?N ?b ?e ?U ?_; (case F => k_asm); (case N => k_asm); (case b => k_mem); (case U => k_upd); (case e => (first | omega | (simp only [Array.toList_push, List.length_append, List.length_singleton]; omega))))); intro h' F' N'; (try k_sweep)) | ((with_reducible show wpAny _ _ (noteFrame (Value.ref _) _) _ _ _); (with_reducible rename Heap.NewExc _ _ _ _ => tiX'); (with_reducible show wpAny _ _ (noteFrame (Value.ref _) _) (fun _ s₂ => FinallyRaised _ _ _ _ _ _ _ _ s₂) _ _); k_dflt (refine' finR (new := [_, _, _, _]) ?f1 ?f2 ?f3 ?f4 tiX' ?f5 ?f6 ?f7 ?_; (case f1 => exact rfl); (case f2 => exact rfl); (case f3 => show ScopeKind.function ≠ ScopeKind.module; decide); (case f5 => k_asm); (case f6 => assumption); (case f4 => assumption); (case f7 => exact TLg.AllNe.mem (by tlg_ne))); clear tiX'; intro h' sl' ob' vs' hc' hd' h2' en' eL' tiF' F' N'; (replace en' := TLgL.allNe_of en'); (try dsimp only [TLg.AllNe] at en'); (repeat ((with_reducible rename _ ∧ _ => hA9); (have hA1 := And.left hA9); (have hA2 := And.right hA9); clear hA9)); (try dsimp only [List.nil_append, List.cons_append] at N'); (try k_sweep); (try dsimp only)) | ((with_reducible show wpAny _ _ (noteFrame (Value.ref _) _) _ _ _); (with_reducible rename NewC _ _ _ _ _ => tiX'); k_dflt (refine' cameR (new := [_, _, _, _, _]) ?f1 ?f2 ?f3 ?f4 tiX' ?f5 ?f6 ?f7 ?_; (case f1 => exact rfl); (case f2 => exact rfl); (case f3 => show ScopeKind.function ≠ ScopeKind.module; decide); (case f5 => k_asm); (case f6 => assumption); (case f4 => assumption); (case f7 => exact TLg.AllNe.mem (by tlg_ne))); clear tiX'; intro h' sl' tiF' tiH'; (try dsimp only [List.nil_append, List.cons_append] at tiH'); have tiHH' := TT.HeldNA.held tiH') | ((with_reducible rename NewC _ _ _ _ _ => tiX'); k_dflt (refine' cameR (new := [_, _, _, _, _]) ?f1 ?f2 ?f3 ?f4 tiX' ?f5 ?f6 ?f7 ?_; (case f1 => exact rfl); (case f2 => exact rfl); (case f3 => show ScopeKind.function ≠ ScopeKind.module; decide); (case f5 => k_asm); (case f6 => assumption); (case f4 => assumption); (case f7 => exact TLg.AllNe.mem (by tlg_ne))); clear tiX'; intro h' sl' tiF' tiH'; (try dsimp only [List.nil_append, List.cons_append] at tiH'); have tiHH' := TT.HeldNA.held tiH') | ((with_reducible show WhlRest _ _ _ _ _ _ _ _ _ _ _); k_dflt (refine' whl_turn ?hE ?_; (case hE => first | passes_own | with_unfolding_all passes_own)); (try k_sweep)) | ((with_reducible show wpAny _ _ (exec (Stmt.While _ _ _ _) _) _ _ _); k_dflt (refine whl_start 100 ?_)) | ((with_reducible show WhlIf _ _ _); first | (refine WhlIf.no (beq2 (by first | decide | omega)) ?_) | (refine WhlIf.yes (by with_unfolding_all rfl) ?_)) | ((with_reducible show wpAny _ _ (compareOp CmpOp.Lt (Value.str _ _) (Value.str _ _)) _ _ _); first | refine ltD (by first | decide | omega) ?_ | refine ltU (by first | decide | omega) ?_ | refine lt_str ?_) | ((with_reducible show wpAny _ _ (compareOp CmpOp.Gt (Value.str _ _) (Value.str _ _)) _ _ _); first | refine gtU (by first | decide | omega) ?_ | refine P.gt_str ?_) | ((with_reducible show wpAny _ _ (call (Value.builtin "list.append") [Value.ref _, _]) _ _ _); k_dflt (refine' append_K ?k1 ?k2 ?k3 ?_ ?z; (case k1 => k_asm); (case k2 => k_asm); (case k3 => k_upd); (case z => first | size_fits | (show List.length _ ≤ sizeLine; rw [sizeLine_eq]; (first | omega | (simp only [Array.toList_push, List.length_append, List.length_singleton]; omega)))); k_whole); intro h' F' N'; (try k_sweep)) | ((with_reducible show wpAny _ _ (exec _ _) _ _ _); refine absQ ?_; intro Q9 hQ9; walk1) | walk1 | (dsimp only; walk1) | ((with_reducible refine absQ_end (by with_reducible assumption) ?_); (try dsimp only)) | (leave1; walk_say "STEP leave1"; try dsimp only) | fail "no step"))
    all_goals (show Q _ _; refine finT3 (s := s) Nn F (by assumption) hs K9 hret (by assumption) (by assumption) (by k_mem) (List.forall_mem_cons.mpr ⟨by k_mem, List.forall_mem_cons.mpr ⟨by k_mem, List.forall_mem_nil _⟩⟩) (by k_mem) (by k_mem) (by k_mem) (List.forall_mem_cons.mpr ⟨by k_ne, List.forall_mem_cons.mpr ⟨by k_ne, List.forall_mem_nil _⟩⟩) (List.forall_mem_cons.mpr ⟨by k_ne, List.forall_mem_cons.mpr ⟨by k_ne, List.forall_mem_nil _⟩⟩) (List.forall_mem_cons.mpr ⟨by k_ne, List.forall_mem_cons.mpr ⟨by k_ne, List.forall_mem_nil _⟩⟩) (by k_ne) (by k_ne) (by k_ne) ⟨_, _, _, _, _, _, _, rfl, rfl, by (first | with_reducible assumption | with_reducible exact TA.put (by with_reducible assumption) (ne_lt (by with_reducible assumption)) | with_reducible exact TA.put (by with_reducible assumption) (ne_gt (by with_reducible assumption)) | with_reducible exact TA.keep (by with_reducible assumption) (eq_of (by with_reducible assumption) (by with_reducible assumption)) | with_reducible exact TA.put (k := 3) (by with_reducible assumption) (ne_lt (by with_reducible assumption)) | with_reducible exact TA.put (k := 3) (by with_reducible assumption) (ne_gt (by with_reducible assumption)) | with_reducible exact TA.keep (k := 3) (by with_reducible assumption) (eq_of (by with_reducible assumption) (by with_reducible assumption))), by (first | with_reducible assumption | with_reducible exact TA.put (by with_reducible assumption) (ne_lt (by with_reducible assumption)) | with_reducible exact TA.put (by with_reducible assumption) (ne_gt (by with_reducible assumption)) | with_reducible exact TA.keep (by with_reducible assumption) (eq_of (by with_reducible assumption) (by with_reducible assumption)) | with_reducible exact TA.put (k := 3) (by with_reducible assumption) (ne_lt (by with_reducible assumption)) | with_reducible exact TA.put (k := 3) (by with_reducible assumption) (ne_gt (by with_reducible assumption)) | with_reducible exact TA.keep (k := 3) (by with_reducible assumption) (eq_of (by with_reducible assumption) (by with_reducible assumption)))⟩)
  case hstep => as_aux_lemma =>
    intro i hi hR s9 hP9
    obtain ⟨h9, tk9, m9, ti, tj, its1, its2, n1, n2, rfl, F9, N9, T1, T2⟩ := hP9
    have L1 : its1.toList.length ≤ i := T1.length ▸ df_len f g i
    have L2 : its2.toList.length ≤ i := T2.length ▸ df_len g f i
    (repeat' (first | (k_unfold; (try dsimp only)) | (k_end; wrow_close) | ((with_reducible show WhlRest _ _ _ _ _ _ _ _ _ _ _); k_dflt (refine whl_any (hR _ ?_); (refine' SldAt.intro ?sF ?sN ?s1 ?s2 ?s3 ?s4 ?s5 ?s6 ?s7 ?s8 ?s9 ?s10 ?s11 ?t1 ?t2; (case sF => k_asm); (case sN => k_asm); (case s5 => exact rfl); (case s6 => exact rfl); (case s1 => exact rfl); (case s2 => exact rfl); (case s3 => exact rfl); (case s4 => exact rfl); (case s7 => k_mem); (case s8 => k_mem); (case s9 => k_mem); (case s10 => k_mem); (case s11 => k_mem); (case t1 => (first | with_reducible assumption | with_reducible exact TA.put (by with_reducible assumption) (ne_lt (by with_reducible assumption)) | with_reducible exact TA.put (by with_reducible assumption) (ne_gt (by with_reducible assumption)) | with_reducible exact TA.keep (by with_reducible assumption) (eq_of (by with_reducible assumption) (by with_reducible assumption)) | with_reducible exact TA.put (k := 3) (by with_reducible assumption) (ne_lt (by with_reducible assumption)) | with_reducible exact TA.put (k := 3) (by with_reducible assumption) (ne_gt (by with_reducible assumption)) | with_reducible exact TA.keep (k := 3) (by with_reducible assumption) (eq_of (by with_reducible assumption) (by with_reducible assumption)))); (case t2 => (first | with_reducible assumption | with_reducible exact TA.put (by with_reducible assumption) (ne_lt (by with_reducible assumption)) | with_reducible exact TA.put (by with_reducible assumption) (ne_gt (by with_reducible assumption)) | with_reducible exact TA.keep (by with_reducible assumption) (eq_of (by with_reducible assumption) (by with_reducible assumption)) | with_reducible exact TA.put (k := 3) (by with_reducible assumption) (ne_lt (by with_reducible assumption)) | with_reducible exact TA.put (k := 3) (by with_reducible assumption) (ne_gt (by with_reducible assumption)) | with_reducible exact TA.keep (k := 3) (by with_reducible assumption) (eq_of (by with_reducible assumption) (by with_reducible assumption))))))) | ((with_reducible show wpAny _ _ (subscriptTail _ _ (Value.ref _) (Value.int _ _)) _ _ _); (k_dflt (refine' so_item ?i1 ?i2 ?i3 ?i4 ?i5 ?_ ?i6; (case i1 => k_asm); (case i2 => k_mem); (case i3 => assumption); (case i4 => omega); (case i5 => decide); (case i6 => with_unfolding_all rfl); k_whole)); intro t9') | ((with_reducible show wpAny _ _ (subscriptTail _ _ (Value.ref _) (Value.int _ _)) _ _ _); (k_dflt (refine' so_item1 ?i1 ?i2 ?i3 ?i4 ?i5 ?_ ?i6; (case i1 => k_asm); (case i2 => k_mem); (case i3 => assumption); (case i4 => omega); (case i5 => decide); (case i6 => with_unfolding_all rfl); k_whole)); intro t9') | ((with_reducible show WhlRest _ _ _ _ _ _ _ _ _ _ _); k_dflt (refine' whl_turn ?hE ?_; (case hE => first | passes_own | with_unfolding_all passes_own)); (try k_sweep)) | ((with_reducible show wpAny _ _ (exec (Stmt.While _ _ _ _) _) _ _ _); k_dflt (refine whl_start 100 ?_)) | ((with_reducible show WhlIf _ _ _); first | (refine WhlIf.no (beq2 (by first | decide | omega)) ?_) | (refine WhlIf.yes (by with_unfolding_all rfl) ?_)) | ((with_reducible show wpAny _ _ (compareOp CmpOp.Lt (Value.str _ _) (Value.str _ _)) _ _ _); first | refine ltD (by first | decide | omega) ?_ | refine ltU (by first | decide | omega) ?_ | refine lt_str ?_) | ((with_reducible show wpAny _ _ (compareOp CmpOp.Gt (Value.str _ _) (Value.str _ _)) _ _ _); first | refine gtU (by first | decide | omega) ?_ | refine P.gt_str ?_) | ((with_reducible show wpAny _ _ (call (Value.builtin "list.append") [Value.ref _, _]) _ _ _); k_dflt (refine' append_K ?k1 ?k2 ?k3 ?_ ?z; (case k1 => k_asm); (case k2 => k_asm); (case k3 => k_upd); (case z => first | size_fits | (show List.length _ ≤ sizeLine; rw [sizeLine_eq]; (first | omega | (simp only [Array.toList_push, List.length_append, List.length_singleton]; omega)))); k_whole); intro h' F' N'; (try k_sweep)) | ((with_reducible show wpAny _ _ (exec _ _) _ _ _); refine absQ ?_; intro Q9 hQ9; walk1) | walk1 | (dsimp only; walk1) | ((with_reducible refine absQ_end (by with_reducible assumption) ?_); (try dsimp only)) | (leave1; walk_say "STEP leave1"; try dsimp only) | fail "no step"))
-- L3
theorem mod3 (x : Int) : Int.fmod x 3 = 0 ∨ Int.fmod x 3 = 1 ∨ Int.fmod x 3 = 2 := by
  rw [Int.fmod_eq_emod_of_nonneg _ (by decide)]; omega
end Mine
open Mine
theorem PySem.Challenge.cw_oc0089_01_holds : PySem.Challenge.rw_oc0089_01.Holds := by
  refine Mine.hd ?_
  k_go0
  (all_goals try k_fold)
  rename_i w s₀ s₁ mg mb G Y fa o pm doc ho hg KX X V GL T B TE TW w14 w13 M w12 w11 hcd ns hsh hlay0 hL1 hr1 hl2 w9 w8 sc vs w5 hl ra w1 r0 hI hr hc1 hc2 K0 hD h₁ tk₁ F o5 o4 o3 o2 o1 c5 c4 c3 c2 c1 N0 X0
  replace F : Fr s₁.heap s₁.heap.objs.size h₁ (fun y => if y = Str.ofString "script" then some (.ref sc) else none) := F
  replace c1 : o1.data = .cell none := c1
  replace c2 : o2.data = .cell none := c2
  replace c3 : o3.data = .cell none := c3
  replace c4 : o4.data = .cell none := c4
  replace c5 : o5.data = .cell none := c5
  replace K0 : Below callerA s₁.heap [] s₁.heap := K0
  replace hc1 : ns.length ≤ 63 := by omega
  clear X0 hD hcd hc2
  refine letE9 ?_
  intro e9 A9 E9
  repeat ((fail_if_success (with_reducible show wpAny _ _ (exec (Stmt.Assign [Expr.Name (Str.ofString "part") _] _ _) _) _ _ _)); (first | (k_unfold; (try dsimp only)) | (k_end; wrow_close) | ((with_reducible show wpAny _ _ (call (Value.ref 100) _) _ _ _); k_dflt (refine' SaysP.use (files_S _ _ _ _ (by assumption) (by assumption)) ?k1 ?k2 ?k3 ?k4 ?k5 ?kK ?kd ?ku ?ks ?kp ?_; (case k1 => k_asm); (case k2 => k_asm); (case k3 => k_asm); (case k4 => k_asm); (case k5 => k_asm); (case kK => first | exact rfl | assumption); (case kp => assumption); (case ks => (first | exact List.forall_mem_nil _ | (refine List.forall_mem_cons.mpr ⟨by k_mem, ?_⟩; first | exact List.forall_mem_nil _ | (refine List.forall_mem_cons.mpr ⟨by k_mem, ?_⟩; exact List.forall_mem_nil _)))); (case kd => first | exact lvl (by assumption) (by decide) | decide); (case ku => first | exact lvlU (by assumption) (by decide) | decide); k_whole); intro r9 tl9 h9 tk9 hp9 F9 N9 o9; obtain ⟨D9, oF, n, hr9, ht9, hF, hb⟩ := hp9; subst hr9 ht9; (replace o9 := offs1 o9); (dsimp only [LCg.Off1] at o9); (repeat ((with_reducible rename _ ∧ _ => hA9); (have hA1 := And.left hA9); (have hA2 := And.right hA9); clear hA9)); (try dsimp only [List.cons_append, List.nil_append] at N9); (try k_sweep); (try dsimp only)) | ((with_reducible show wpAny _ _ (exec _ _) _ _ _); refine absQ ?_; intro Q9 hQ9; walk1) | walk1 | (dsimp only; walk1) | ((with_reducible refine absQ_end (by with_reducible assumption) ?_); (try dsimp only))))
  repeat ((fail_if_success (with_reducible show wpAny _ _ (exec (Stmt.Assign [Expr.Name (Str.ofString "rows") _] _ _) _) _ _ _)); (first | (k_unfold; (try dsimp only)) | (k_end; wrow_close) | ((with_reducible show wpAny _ _ (call (Value.builtin "sum") _) _ _ _); (k_dflt (refine' io_sum ?j0 ?jF ?j1 ?j2 ?j3 ?j4 ?_; (case j0 => with_unfolding_all rfl); (case jF => k_asm); (case j1 => k_asm); (case j2 => k_mem); (case j3 => assumption); (case j4 => assumption); k_whole)); intro h9' k9 t9' tk9' F9' N9'; (try k_sweep); (try dsimp only)) | ((with_reducible show wpAny _ _ (exec _ _) _ _ _); refine absQ ?_; intro Q9 hQ9; walk1) | walk1 | (dsimp only; walk1) | ((with_reducible refine absQ_end (by with_reducible assumption) ?_); (try dsimp only))))
  have hp := mod3 k9
  rename (_ = Data.cell (some (Value.int _ _))) => d1
  generalize Int.fmod k9 3 = p at hp d1
  obtain ⟨f, hf⟩ : ∃ f : Nat → Nat → Nat, ∀ i, f i = sg (n i) p.toNat := ⟨_, fun _ => rfl⟩
  have okf : ∀ i, Ok (f i) := fun i => hf i ▸ ok_sg _ _
  repeat ((fail_if_success (with_reducible show LCg.CompSrc _ _ _ _ _ _ _ _ _ _ _ _ _ _)); (first | (k_unfold; (try dsimp only)) | (k_end; wrow_close) | ((with_reducible show wpAny _ _ (eval (Expr.ListComp _ _ _ _) _) _ _ _); k_dflt (refine LCg.ListComp_U (F₀ := by k_asm) (by rfl) (by decide) (by rfl) (by decide) (by rfl) ?_)) | ((with_reducible show wpAny _ _ (exec _ _) _ _ _); refine absQ ?_; intro Q9 hQ9; walk1) | walk1 | (dsimp only; walk1) | ((with_reducible refine absQ_end (by with_reducible assumption) ?_); (try dsimp only))))
  refine' so_src (fun i y => ∃ t, y = .str (rowF (f i)) t) ?a0 ?a1 ?a2 ?a3 hF ?a5 ?ct ?cf
  case a0 => with_unfolding_all rfl
  case a1 => k_asm
  case a2 => k_asm
  case a3 => k_mem
  case a5 => decide
  case ct =>
    intro g9 i t I oI C oC D m2 h8 tk8 E8 ys8 hi hN8 hx F8 N8
    (repeat' (first | (k_unfold; (try dsimp only)) | (k_end; wrow_close) | ((with_reducible show wpAny _ _ (call (Value.ref 107) _) _ _ _); k_dflt (refine' Says.use (shown_P _ _ _ _ _ (by assumption)) ?k1 ?k2 ?k3 ?k4 ?k5 ?kK ?kd ?ku ?ks ?_; (case k1 => k_asm); (case k2 => k_asm); (case k3 => k_asm); (case k4 => k_asm); (case k5 => k_asm); (case kK => first | exact rfl | assumption); (case ks => (first | exact List.forall_mem_nil _ | (refine List.forall_mem_cons.mpr ⟨by k_mem, ?_⟩; first | exact List.forall_mem_nil _ | (refine List.forall_mem_cons.mpr ⟨by k_mem, ?_⟩; exact List.forall_mem_nil _)))); (case kd => first | exact lvl (by assumption) (by decide) | decide); (case ku => first | exact lvlU (by assumption) (by decide) | decide); k_whole); intro r9 tl9 h9 tk9 hp9 F9 N9 o9; obtain ⟨⟨t9, e9⟩, e8⟩ := hp9; subst e9 e8; clear o9; (try dsimp only [List.nil_append] at N9); (try k_sweep); (try dsimp only)) | ((with_reducible show wpAny _ _ (exec _ _) _ _ _); refine absQ ?_; intro Q9 hQ9; walk1) | walk1 | (dsimp only; walk1) | ((with_reducible refine absQ_end (by with_reducible assumption) ?_); (try dsimp only)) | (leave1; walk_say "STEP leave1"; try dsimp only) | fail "no step"))
    exact CellPost.intro (by k_asm) (by k_asm) (fun _ q => q) ⟨_, by rw [hf i]⟩
  case cf =>
  intro g9 ys hys
  have hR := hys.so
  clear hys
  repeat ((fail_if_success (with_reducible show wpAny _ _ (exec (Stmt.Assign [Expr.Name (Str.ofString "plain") _] _ _) _) _ _ _)); (first | (k_unfold; (try dsimp only)) | (k_end; wrow_close) | ((with_reducible show LCg.FinE _ _ _ _ _ _ _); (unfold LCg.FinE); intro D' h' tk' F' N' o1'; (try dsimp only [LCg.Off1] at o1'); (repeat ((with_reducible rename _ ∧ _ => hA9); (have hA1 := And.left hA9); (have hA2 := And.right hA9); clear hA9))) | ((with_reducible show wpAny _ _ (exec _ _) _ _ _); refine absQ ?_; intro Q9 hQ9; walk1) | walk1 | (dsimp only; walk1) | ((with_reducible refine absQ_end (by with_reducible assumption) ?_); (try dsimp only))))
  repeat ((fail_if_success (with_reducible show LCg.CompSrc _ _ _ _ _ _ _ _ _ _ _ _ _ _)); (first | (k_unfold; (try dsimp only)) | (k_end; wrow_close) | ((with_reducible show wpAny _ _ (eval (Expr.ListComp _ _ _ _) _) _ _ _); k_dflt (refine LCg.ListComp_U (F₀ := by k_asm) (by rfl) (by decide) (by rfl) (by decide) (by rfl) ?_)) | ((with_reducible show wpAny _ _ (exec _ _) _ _ _); refine absQ ?_; intro Q9 hQ9; walk1) | walk1 | (dsimp only; walk1) | ((with_reducible refine absQ_end (by with_reducible assumption) ?_); (try dsimp only))))
  refine' so_src (fun i y => ∃ t, y = .str (rowF (f i)) t) ?a0 ?a1 ?a2 ?a3 hF ?a5 ?ct ?cf
  case a0 => with_unfolding_all rfl
  case a1 => k_asm
  case a2 => k_asm
  case a3 => k_mem
  case a5 => decide
  case ct =>
    intro g9 i t I oI C oC D m2 h8 tk8 E8 ys8 hi hN8 hx F8 N8
    (repeat' (first | (k_unfold; (try dsimp only)) | (k_end; wrow_close) | ((with_reducible show wpAny _ _ (call (Value.ref 114) _) _ _ _); k_dflt (refine' Says.use (plain_P _ _ _ _ _ (hb _) (by assumption)) ?k1 ?k2 ?k3 ?k4 ?k5 ?kK ?kd ?ku ?ks ?_; (case k1 => k_asm); (case k2 => k_asm); (case k3 => k_asm); (case k4 => k_asm); (case k5 => k_asm); (case kK => first | exact rfl | assumption); (case ks => (first | exact List.forall_mem_nil _ | (refine List.forall_mem_cons.mpr ⟨by k_mem, ?_⟩; first | exact List.forall_mem_nil _ | (refine List.forall_mem_cons.mpr ⟨by k_mem, ?_⟩; exact List.forall_mem_nil _)))); (case kd => first | exact lvl (by assumption) (by decide) | decide); (case ku => first | exact lvlU (by assumption) (by decide) | decide); k_whole); intro r9 tl9 h9 tk9 hp9 F9 N9 o9; obtain ⟨⟨t9, e9⟩, e8⟩ := hp9; subst e9 e8; clear o9; (try dsimp only [List.nil_append] at N9); (try k_sweep); (try dsimp only)) | ((with_reducible show wpAny _ _ (exec _ _) _ _ _); refine absQ ?_; intro Q9 hQ9; walk1) | walk1 | (dsimp only; walk1) | ((with_reducible refine absQ_end (by with_reducible assumption) ?_); (try dsimp only)) | (leave1; walk_say "STEP leave1"; try dsimp only) | fail "no step"))
    exact CellPost.intro (by k_asm) (by k_asm) (fun _ q => q) ⟨_, by rw [hf i]⟩
  case cf =>
  intro g9 ys hys
  have hP := hys.so
  clear hys
  repeat ((fail_if_success (with_reducible show wpAny _ _ (exec (Stmt.Assign [Expr.Name (Str.ofString "calm") _] _ _) _) _ _ _)); (first | (k_unfold; (try dsimp only)) | (k_end; wrow_close) | ((with_reducible show LCg.FinE _ _ _ _ _ _ _); (unfold LCg.FinE); intro D' h' tk' F' N' o1'; (try dsimp only [LCg.Off1] at o1'); (repeat ((with_reducible rename _ ∧ _ => hA9); (have hA1 := And.left hA9); (have hA2 := And.right hA9); clear hA9))) | ((with_reducible show wpAny _ _ (exec _ _) _ _ _); refine absQ ?_; intro Q9 hQ9; walk1) | walk1 | (dsimp only; walk1) | ((with_reducible refine absQ_end (by with_reducible assumption) ?_); (try dsimp only))))
  repeat ((fail_if_success (with_reducible show LCg.CompSrc _ _ _ _ _ _ _ _ _ _ _ _ _ _)); (first | (k_unfold; (try dsimp only)) | (k_end; wrow_close) | ((with_reducible show wpAny _ _ (eval (Expr.ListComp _ _ _ _) _) _ _ _); k_dflt (refine LCg.ListComp_U (F₀ := by k_asm) (by rfl) (by decide) (by rfl) (by decide) (by rfl) ?_)) | ((with_reducible show wpAny _ _ (exec _ _) _ _ _); refine absQ ?_; intro Q9 hQ9; walk1) | walk1 | (dsimp only; walk1) | ((with_reducible refine absQ_end (by with_reducible assumption) ?_); (try dsimp only))))
  refine' rg_src (n := 4) (fun i y => ∃ t, y = .str (rowF (calmR f i)) t) ?a0 ?a1 ?a2 ?a3 ?a4 ?a5 ?a6 ?ct ?cf
  case a0 => with_unfolding_all rfl
  case a1 => k_asm
  case a2 => k_asm
  case a3 => assumption
  case a4 => first | decide | rfl
  case a5 => first | rfl | decide
  case a6 => decide
  case ct =>
    intro g9 i t I oI C oC D m2 h8 tk8 E8 ys8 hi hN8 hx F8 N8
    (repeat' (first | (k_unfold; (try dsimp only)) | (k_end; wrow_close) | ((with_reducible show wpAny _ _ (call (Value.ref 124) _) _ _ _); k_dflt (refine' Says.use (calm_S _ _ _ f _ _ hP (by assumption)) ?k1 ?k2 ?k3 ?k4 ?k5 ?kK ?kd ?ku ?ks ?_; (case k1 => k_asm); (case k2 => k_asm); (case k3 => k_asm); (case k4 => k_asm); (case k5 => k_asm); (case kK => first | exact rfl | assumption); (case ks => (first | exact List.forall_mem_nil _ | (refine List.forall_mem_cons.mpr ⟨by k_mem, ?_⟩; first | exact List.forall_mem_nil _ | (refine List.forall_mem_cons.mpr ⟨by k_mem, ?_⟩; exact List.forall_mem_nil _)))); (case kd => first | exact lvl (by assumption) (by decide) | decide); (case ku => first | exact lvlU (by assumption) (by decide) | decide); k_whole); intro r9 tl9 h9 tk9 hp9 F9 N9 o9; obtain ⟨⟨t9, e9⟩, e8⟩ := hp9; subst e9 e8; clear o9; (try dsimp only [List.nil_append] at N9); (try k_sweep); (try dsimp only)) | ((with_reducible show wpAny _ _ (exec _ _) _ _ _); refine absQ ?_; intro Q9 hQ9; walk1) | walk1 | (dsimp only; walk1) | ((with_reducible refine absQ_end (by with_reducible assumption) ?_); (try dsimp only)) | (leave1; walk_say "STEP leave1"; try dsimp only) | fail "no step"))
    exact CellPost.intro (by k_asm) (by k_asm) (fun _ q => q) ⟨_, rfl⟩
  case cf =>
  intro g9 ys hys
  have hC := hys.so
  clear hys
  have okc : ∀ i, Ok (calmR f i) := fun i j => cm_lt (okf _ _) (okf _ _) (okf _ _)
  repeat ((fail_if_success (with_reducible show wpAny _ _ (exec (Stmt.Assign [Expr.Name (Str.ofString "once") _] _ _) _) _ _ _)); (first | (k_unfold; (try dsimp only)) | (k_end; wrow_close) | ((with_reducible show LCg.FinE _ _ _ _ _ _ _); (unfold LCg.FinE); intro D' h' tk' F' N' o1'; (try dsimp only [LCg.Off1] at o1'); (repeat ((with_reducible rename _ ∧ _ => hA9); (have hA1 := And.left hA9); (have hA2 := And.right hA9); clear hA9))) | ((with_reducible show wpAny _ _ (exec _ _) _ _ _); refine absQ ?_; intro Q9 hQ9; walk1) | walk1 | (dsimp only; walk1) | ((with_reducible refine absQ_end (by with_reducible assumption) ?_); (try dsimp only))))
  repeat ((fail_if_success (with_reducible show wpAny _ _ (exec (Stmt.Assign [Expr.Name (Str.ofString "twice") _] _ _) _) _ _ _)); (first | (k_unfold; (try dsimp only)) | (k_end; wrow_close) | ((with_reducible show wpAny _ _ (call (Value.ref 119) _) _ _ _); k_dflt (refine' Says.use (round_S _ _ _ f hR) ?k1 ?k2 ?k3 ?k4 ?k5 ?kK ?kd ?ku ?ks ?_; (case k1 => k_asm); (case k2 => k_asm); (case k3 => k_asm); (case k4 => k_asm); (case k5 => k_asm); (case kK => first | exact rfl | assumption); (case ks => (first | exact List.forall_mem_nil _ | (refine List.forall_mem_cons.mpr ⟨by k_mem, ?_⟩; first | exact List.forall_mem_nil _ | (refine List.forall_mem_cons.mpr ⟨by k_mem, ?_⟩; exact List.forall_mem_nil _)))); (case kd => first | exact lvl (by assumption) (by decide) | decide); (case ku => first | exact lvlU (by assumption) (by decide) | decide); k_whole); intro r9 tl9 h9 tk9 hp9 F9 N9 o9; obtain ⟨D9, o9', hr9, ht9, hO⟩ := hp9; subst hr9 ht9; (replace o9 := offs1 o9); (dsimp only [LCg.Off1] at o9); (repeat ((with_reducible rename _ ∧ _ => hA9); (have hA1 := And.left hA9); (have hA2 := And.right hA9); clear hA9)); (try dsimp only [List.cons_append, List.nil_append] at N9); (try k_sweep); (try dsimp only)) | ((with_reducible show wpAny _ _ (exec _ _) _ _ _); refine absQ ?_; intro Q9 hQ9; walk1) | walk1 | (dsimp only; walk1) | ((with_reducible refine absQ_end (by with_reducible assumption) ?_); (try dsimp only))))
  have oko : ∀ i, Ok (onceR f i) := fun i j => med_lt (okf _ _) (okf _ _)
  repeat ((fail_if_success (with_reducible show wpAny _ _ (exec (Stmt.Assign [Expr.Name (Str.ofString "told") _] _ _) _) _ _ _)); (first | (k_unfold; (try dsimp only)) | (k_end; wrow_close) | ((with_reducible show wpAny _ _ (call (Value.ref 119) _) _ _ _); k_dflt (refine' Says.use (round_S _ _ _ (onceR f) hO) ?k1 ?k2 ?k3 ?k4 ?k5 ?kK ?kd ?ku ?ks ?_; (case k1 => k_asm); (case k2 => k_asm); (case k3 => k_asm); (case k4 => k_asm); (case k5 => k_asm); (case kK => first | exact rfl | assumption); (case ks => (first | exact List.forall_mem_nil _ | (refine List.forall_mem_cons.mpr ⟨by k_mem, ?_⟩; first | exact List.forall_mem_nil _ | (refine List.forall_mem_cons.mpr ⟨by k_mem, ?_⟩; exact List.forall_mem_nil _)))); (case kd => first | exact lvl (by assumption) (by decide) | decide); (case ku => first | exact lvlU (by assumption) (by decide) | decide); k_whole); intro r9 tl9 h9 tk9 hp9 F9 N9 o9; obtain ⟨D9, o9', hr9, ht9, hW0⟩ := hp9; subst hr9 ht9; (replace o9 := offs1 o9); (dsimp only [LCg.Off1] at o9); (repeat ((with_reducible rename _ ∧ _ => hA9); (have hA1 := And.left hA9); (have hA2 := And.right hA9); clear hA9)); (try dsimp only [List.cons_append, List.nil_append] at N9); (try k_sweep); (try dsimp only)) | ((with_reducible show wpAny _ _ (exec _ _) _ _ _); refine absQ ?_; intro Q9 hQ9; walk1) | walk1 | (dsimp only; walk1) | ((with_reducible refine absQ_end (by with_reducible assumption) ?_); (try dsimp only))))
  have hW := SO.congr hW0 (fun i hi => congrArg rowF (once_once f hi))
  clear hW0
  repeat ((fail_if_success (with_reducible show LCg.CompSrc _ _ _ _ _ _ _ _ _ _ _ _ _ _)); (first | (k_unfold; (try dsimp only)) | (k_end; wrow_close) | ((with_reducible show wpAny _ _ (exec (Stmt.Assign [_] (Expr.ListComp _ _ _ _) _) _) _ _ _); k_dflt (refine LCg.Assign_ListComp_U (F₀ := by k_asm) (by rfl) (by with_unfolding_all rfl) (by rfl) (by decide) (by rfl) (by decide) (by rfl) (by rfl) (by rfl) ?_)) | ((with_reducible show wpAny _ _ (exec _ _) _ _ _); refine absQ ?_; intro Q9 hQ9; walk1) | walk1 | (dsimp only; walk1) | ((with_reducible refine absQ_end (by with_reducible assumption) ?_); (try dsimp only))))
  refine' rg_add (n := 4) (fun i nw y => PairAt nw (df (f i) (calmR f i) 4) (df (calmR f i) (f i) 4) y) ?hP ?a0 ?a1 ?a2 ?a3 ?a4 ?a5 ?a6 ?ct ?cf
  case hP => exact fun i nw nw' y h hs => h.mono hs
  case a0 => with_unfolding_all rfl
  case a1 => k_asm
  case a2 => k_asm
  case a3 => assumption
  case a4 => first | decide | rfl
  case a5 => first | rfl | decide
  case a6 => decide
  case ct =>
    intro g9 i t I oI C oC D m2 h8 tk8 E8 ys8 tl8 hi hN8 hx F8 N8
    dsimp only [List.cons_append, List.nil_append] at N8
    repeat ((fail_if_success (with_reducible show wpAny _ _ (call (Value.ref 88) _) _ _ _)); (first | (k_unfold; (try dsimp only)) | (k_end; wrow_close) | ((with_reducible show wpAny _ _ (subscriptTail _ _ (Value.ref _) (Value.int _ _)) _ _ _); (k_dflt (refine' so_item ?i1 ?i2 ?i3 ?i4 ?i5 ?_ ?i6; (case i1 => k_asm); (case i2 => k_mem); (case i3 => assumption); (case i4 => assumption); (case i5 => decide); (case i6 => with_unfolding_all rfl); k_whole)); intro t9') | ((with_reducible show wpAny _ _ (call (Value.ref 134) _) _ _ _); k_dflt (refine' Says.use (marks_S _ _ _ _ _ _ _ _ _) ?k1 ?k2 ?k3 ?k4 ?k5 ?kK ?kd ?ku ?ks ?_; (case k1 => k_asm); (case k2 => k_asm); (case k3 => k_asm); (case k4 => k_asm); (case k5 => k_asm); (case kK => first | exact rfl | assumption); (case ks => (first | exact List.forall_mem_nil _ | (refine List.forall_mem_cons.mpr ⟨by k_mem, ?_⟩; first | exact List.forall_mem_nil _ | (refine List.forall_mem_cons.mpr ⟨by k_mem, ?_⟩; exact List.forall_mem_nil _)))); (case kd => first | exact lvl (by assumption) (by decide) | decide); (case ku => first | exact lvlU (by assumption) (by decide) | decide); k_whole); intro r9 tl9 h9 tk9 hp9 F9 N9 o9; obtain ⟨D9, o9', hr9, ht9, S9⟩ := hp9; subst hr9 ht9; clear o9; (try dsimp only [List.cons_append, List.nil_append] at N9); (try k_sweep); (try dsimp only)) | ((with_reducible show wpAny _ _ (exec _ _) _ _ _); refine absQ ?_; intro Q9 hQ9; walk1) | walk1 | (dsimp only; walk1) | ((with_reducible refine absQ_end (by with_reducible assumption) ?_); (try dsimp only))))
    ((with_reducible show wpAny _ _ (call (Value.ref 88) _) _ _ _); k_dflt (refine' SaysO.use (sld_S _ _ _ _ _ _ _ ?s1 ?s2) ?k2 ?k3 ?k4 ?k5 ?kK ?kd ?ku ?ks ?_; (case k2 => k_asm); (case k3 => k_asm); (case k4 => k_asm); (case k5 => k_asm); (case kK => first | exact rfl | assumption); (case kd => decide); (case ku => decide); (case ks => exact List.forall_mem_cons.mpr ⟨by k_mem, List.forall_mem_cons.mpr ⟨by k_mem, List.forall_mem_nil _⟩⟩); (case s1 => assumption); (case s2 => assumption)))
    intro r9 tl9 h9 tk9 hp9 F9 N9 o9
    obtain ⟨D9, D19, D29, M9, U9, c19, c29, hr9, ht9, ta9, tb9⟩ := hp9
    subst hr9 ht9
    (repeat' (first | (k_unfold; (try dsimp only)) | (k_end; wrow_close) | ((with_reducible show wpAny _ _ (exec _ _) _ _ _); refine absQ ?_; intro Q9 hQ9; walk1) | walk1 | (dsimp only; walk1) | ((with_reducible refine absQ_end (by with_reducible assumption) ?_); (try dsimp only)) | (leave1; walk_say "STEP leave1"; try dsimp only) | fail "no step"))
    exact AddPost.pair [_, _, _, _] F9 N9 o9 ta9 tb9
  case cf =>
  intro g9 ys tl hT
  repeat ((fail_if_success (with_reducible show wpAny _ _ (exec (Stmt.If _ _ _ _) _) _ _ _)); (first | (k_unfold; (try dsimp only)) | (k_end; wrow_close) | ((with_reducible show LCg.FinA _ _ _ _ _ _ _ _); (unfold LCg.FinA); intro D' h' tk' F' N' o1'; (try dsimp only [LCg.Off1] at o1'); (repeat ((with_reducible rename _ ∧ _ => hA9); (have hA1 := And.left hA9); (have hA2 := And.right hA9); clear hA9))) | ((with_reducible show wpAny _ _ (exec _ _) _ _ _); refine absQ ?_; intro Q9 hQ9; walk1) | walk1 | (dsimp only; walk1) | ((with_reducible refine absQ_end (by with_reducible assumption) ?_); (try dsimp only))))
  repeat ((fail_if_success (with_reducible show LCg.CompSrc _ _ _ _ _ _ _ _ _ _ _ _ _ _)); (first | (k_unfold; (try dsimp only)) | (k_end; wrow_close) | ((with_reducible show wpAny _ _ (eval (Expr.ListComp _ _ _ _) _) _ _ _); k_dflt (refine LCg.ListComp_U (F₀ := by k_asm) (by rfl) (by decide) (by rfl) (by decide) (by rfl) ?_)) | ((with_reducible show wpAny _ _ (compareOp CmpOp.NotEq (Value.ref _) (Value.ref _)) _ _ _); k_dflt (refine' so_ne ?N ?m1 ?m2 ?S1 ?S2 ?ok ?hu ?_; (case N => k_asm); (case m1 => k_mem); (case m2 => k_mem); (case S1 => assumption); (case S2 => assumption); (case ok => assumption); (case hu => first | decide | ke_room))) | ((with_reducible show wpAny _ _ (exec _ _) _ _ _); refine absQ ?_; intro Q9 hQ9; walk1) | walk1 | (dsimp only; walk1) | ((with_reducible refine absQ_end (by with_reducible assumption) ?_); (try dsimp only))))
  refine' rg_src (n := 4) (fun i y => ∃ t, y = .str (rowF (onceR f i)) t) ?a0 ?a1 ?a2 ?a3 ?a4 ?a5 ?a6 ?ct ?cf
  case a0 => with_unfolding_all rfl
  case a1 => k_asm
  case a2 => k_asm
  case a3 => assumption
  case a4 => first | decide | rfl
  case a5 => first | rfl | decide
  case a6 => decide
  case ct =>
    intro g9 i t I oI C oC D m2 h8 tk8 E8 ys8 hi hN8 hx F8 N8
    (repeat' (first | (k_unfold; (try dsimp only)) | (k_end; wrow_close) | ((with_reducible show wpAny _ _ (call (Value.ref 129) _) _ _ _); k_dflt (refine' Says.use (over_S _ _ _ (calmR f) _ _ hC (by assumption)) ?k1 ?k2 ?k3 ?k4 ?k5 ?kK ?kd ?ku ?ks ?_; (case k1 => k_asm); (case k2 => k_asm); (case k3 => k_asm); (case k4 => k_asm); (case k5 => k_asm); (case kK => first | exact rfl | assumption); (case ks => (first | exact List.forall_mem_nil _ | (refine List.forall_mem_cons.mpr ⟨by k_mem, ?_⟩; first | exact List.forall_mem_nil _ | (refine List.forall_mem_cons.mpr ⟨by k_mem, ?_⟩; exact List.forall_mem_nil _)))); (case kd => first | exact lvl (by assumption) (by decide) | decide); (case ku => first | exact lvlU (by assumption) (by decide) | decide); k_whole); intro r9 tl9 h9 tk9 hp9 F9 N9 o9; obtain ⟨⟨t9, e9⟩, e8⟩ := hp9; subst e9 e8; clear o9; (try dsimp only [List.nil_append] at N9); (try k_sweep); (try dsimp only)) | ((with_reducible show wpAny _ _ (exec _ _) _ _ _); refine absQ ?_; intro Q9 hQ9; walk1) | walk1 | (dsimp only; walk1) | ((with_reducible refine absQ_end (by with_reducible assumption) ?_); (try dsimp only)) | (leave1; walk_say "STEP leave1"; try dsimp only) | fail "no step"))
    exact CellPost.intro (by k_asm) (by k_asm) (fun _ q => q) ⟨_, by rw [over_calm f hi]⟩
  case cf =>
  intro g9 ys hys
  have hV := hys.so
  clear hys
  repeat ((fail_if_success (with_reducible show wpAny _ _ (exec (Stmt.Return _ _) _) _ _ _)); (first | (k_unfold; (try dsimp only)) | (k_end; wrow_close) | ((with_reducible show LCg.FinE _ _ _ _ _ _ _); (unfold LCg.FinE); intro D' h' tk' F' N' o1'; (try dsimp only [LCg.Off1] at o1'); (repeat ((with_reducible rename _ ∧ _ => hA9); (have hA1 := And.left hA9); (have hA2 := And.right hA9); clear hA9))) | ((with_reducible show wpAny _ _ (compareOp CmpOp.NotEq (Value.ref _) (Value.ref _)) _ _ _); k_dflt (refine' so_ne ?N ?m1 ?m2 ?S1 ?S2 ?ok ?hu ?_; (case N => k_asm); (case m1 => k_mem); (case m2 => k_mem); (case S1 => assumption); (case S2 => assumption); (case ok => assumption); (case hu => first | decide | ke_room))) | ((with_reducible show wpAny _ _ (exec _ _) _ _ _); refine absQ ?_; intro Q9 hQ9; walk1) | walk1 | (dsimp only; walk1) | ((with_reducible refine absQ_end (by with_reducible assumption) ?_); (try dsimp only))))
  repeat ((fail_if_success (with_reducible show wpAny _ _ (compareOp CmpOp.Eq _ _) _ _ _)); (first | (k_unfold; (try dsimp only)) | (k_end; wrow_close) | ((with_reducible show wpAny _ _ (call (Value.ref 119) _) _ _ _); k_dflt (refine' Says.use (round_S _ _ _ (calmR f) hW) ?k1 ?k2 ?k3 ?k4 ?k5 ?kK ?kd ?ku ?ks ?_; (case k1 => k_asm); (case k2 => k_asm); (case k3 => k_asm); (case k4 => k_asm); (case k5 => k_asm); (case kK => first | exact rfl | assumption); (case ks => (first | exact List.forall_mem_nil _ | (refine List.forall_mem_cons.mpr ⟨by k_mem, ?_⟩; first | exact List.forall_mem_nil _ | (refine List.forall_mem_cons.mpr ⟨by k_mem, ?_⟩; exact List.forall_mem_nil _)))); (case kd => first | exact lvl (by assumption) (by decide) | decide); (case ku => first | exact lvlU (by assumption) (by decide) | decide); k_whole); intro r9 tl9 h9 tk9 hp9 F9 N9 o9; obtain ⟨D9, o9', hr9, ht9, hZ0⟩ := hp9; subst hr9 ht9; (replace o9 := offs1 o9); (dsimp only [LCg.Off1] at o9); (repeat ((with_reducible rename _ ∧ _ => hA9); (have hA1 := And.left hA9); (have hA2 := And.right hA9); clear hA9)); (try dsimp only [List.cons_append, List.nil_append] at N9); (try k_sweep); (try dsimp only)) | ((with_reducible show wpAny _ _ (exec _ _) _ _ _); refine absQ ?_; intro Q9 hQ9; walk1) | walk1 | (dsimp only; walk1) | ((with_reducible refine absQ_end (by with_reducible assumption) ?_); (try dsimp only))))
  have hZ := SO.congr hZ0 (fun i hi => congrArg rowF (once_calm f hi))
  clear hZ0
  repeat ((fail_if_success (with_reducible show LCg.CompSrc _ _ _ _ _ _ _ _ _ _ _ _ _ _)); (first | (k_unfold; (try dsimp only)) | (k_end; wrow_close) | ((with_reducible show wpAny _ _ (eval (Expr.ListComp _ _ _ _) _) _ _ _); k_dflt (refine LCg.ListComp_U (F₀ := by k_asm) (by rfl) (by decide) (by rfl) (by decide) (by rfl) ?_)) | ((with_reducible show wpAny _ _ (compareOp CmpOp.Eq (Value.ref D9) (Value.ref _)) _ _ _); k_dflt (refine' so_eq ?N ?m1 ?m2 ?S1 ?S2 ?ok ?hu ?_; (case N => k_asm); (case m1 => k_mem); (case m2 => k_mem); (case S1 => assumption); (case S2 => assumption); (case ok => assumption); (case hu => first | decide | ke_room))) | ((with_reducible show wpAny _ _ (exec _ _) _ _ _); refine absQ ?_; intro Q9 hQ9; walk1) | walk1 | (dsimp only; walk1) | ((with_reducible refine absQ_end (by with_reducible assumption) ?_); (try dsimp only))))
  refine' rg_add (n := 4) (fun i nw y => PairAt nw (df (f i) (calmR f i) 4) (df (calmR f i) (f i) 4) y) ?hP ?a0 ?a1 ?a2 ?a3 ?a4 ?a5 ?a6 ?ct ?cf
  case hP => exact fun i nw nw' y h hs => h.mono hs
  case a0 => with_unfolding_all rfl
  case a1 => k_asm
  case a2 => k_asm
  case a3 => assumption
  case a4 => first | decide | rfl
  case a5 => first | rfl | decide
  case a6 => decide
  case ct =>
    intro g9 i t I oI C oC D m2 h8 tk8 E8 ys8 tl8 hi hN8 hx F8 N8
    dsimp only [List.cons_append, List.nil_append] at N8
    repeat ((fail_if_success (with_reducible show wpAny _ _ (call (Value.ref 139) _) _ _ _)); (first | (k_unfold; (try dsimp only)) | (k_end; wrow_close) | ((with_reducible show wpAny _ _ (subscriptTail _ _ (Value.ref _) (Value.int _ _)) _ _ _); (k_dflt (refine' so_item ?i1 ?i2 ?i3 ?i4 ?i5 ?_ ?i6; (case i1 => k_asm); (case i2 => k_mem); (case i3 => assumption); (case i4 => assumption); (case i5 => decide); (case i6 => with_unfolding_all rfl); k_whole)); intro t9') | ((with_reducible show wpAny _ _ (exec _ _) _ _ _); refine absQ ?_; intro Q9 hQ9; walk1) | walk1 | (dsimp only; walk1) | ((with_reducible refine absQ_end (by with_reducible assumption) ?_); (try dsimp only))))
    ((with_reducible show wpAny _ _ (call (Value.ref 139) _) _ _ _); k_dflt (refine' Says.use (apart_C _ _ _ _ _) ?k1 ?k2 ?k3 ?k4 ?k5 ?kK ?kd ?ku ?ks ?_; (case k1 => k_asm); (case k2 => k_asm); (case k3 => k_asm); (case k4 => k_asm); (case k5 => k_asm); (case kK => first | exact rfl | assumption); (case ks => (first | exact List.forall_mem_nil _ | (refine List.forall_mem_cons.mpr ⟨by k_mem, ?_⟩; first | exact List.forall_mem_nil _ | (refine List.forall_mem_cons.mpr ⟨by k_mem, ?_⟩; exact List.forall_mem_nil _)))); (case kd => first | exact lvl (by assumption) (by decide) | decide); (case ku => first | exact lvlU (by assumption) (by decide) | decide); k_whole); intro r9 tl9 h9 tk9 hp9 F9 N9 o9; obtain ⟨D9, D19, D29, M9, U9, hr9, ht9, ta9, tb9⟩ := hp9; subst hr9 ht9; (try k_sweep); (try dsimp only))
    (repeat' (first | (k_unfold; (try dsimp only)) | (k_end; wrow_close) | ((with_reducible show wpAny _ _ (exec _ _) _ _ _); refine absQ ?_; intro Q9 hQ9; walk1) | walk1 | (dsimp only; walk1) | ((with_reducible refine absQ_end (by with_reducible assumption) ?_); (try dsimp only)) | (leave1; walk_say "STEP leave1"; try dsimp only) | fail "no step"))
    exact AddPost.pair [] F9 N9 o9 ta9 tb9
  case cf =>
  intro g9 zs tl9 hU
  repeat ((fail_if_success (with_reducible show wpAny _ _ (compareOp CmpOp.Eq _ _) _ _ _)); (first | (k_unfold; (try dsimp only)) | (k_end; wrow_close) | ((with_reducible show LCg.FinE _ _ _ _ _ _ _); (unfold LCg.FinE); intro D' h' tk' F' N' o1'; (try dsimp only [LCg.Off1] at o1'); (repeat ((with_reducible rename _ ∧ _ => hA9); (have hA1 := And.left hA9); (have hA2 := And.right hA9); clear hA9))) | ((with_reducible show wpAny _ _ (exec _ _) _ _ _); refine absQ ?_; intro Q9 hQ9; walk1) | walk1 | (dsimp only; walk1) | ((with_reducible refine absQ_end (by with_reducible assumption) ?_); (try dsimp only))))
  refine' eq_pairs (xs := fun i => df (f i) (calmR f i) 4) (us := fun i => df (calmR f i) (f i) 4) ?N ?T ?S ?hy ?hz ?kk ?hu ?_
  case N => k_asm
  case T => k_mem
  case S => k_mem
  case hy => exact hT.mono fun i y h => h.mono fun p hp => .tail _ (.tail _ (.tail _ (.tail _ (List.mem_append_left _ hp))))
  case hz => exact hU.mono fun i y h => h.mono fun p hp => .tail _ hp
  case kk => exact fun i => pairT_ok (ok_df _ (okf i) 4 (Nat.le_refl _)) (ok_df _ (okc i) 4 (Nat.le_refl _))
  case hu => first | ke_room | decide
  (repeat' (first | (k_unfold; (try dsimp only)) | (k_end; wrow_close) | ((with_reducible show wpAny _ _ (exec _ _) _ _ _); refine absQ ?_; intro Q9 hQ9; walk1) | walk1 | (dsimp only; walk1) | ((with_reducible refine absQ_end (by with_reducible assumption) ?_); (try dsimp only)) | (leave1; walk_say "STEP leave1"; try dsimp only) | fail "no step"))
