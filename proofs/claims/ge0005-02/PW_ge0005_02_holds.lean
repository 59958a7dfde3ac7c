import PyProof.Rows.All
import Wide.All
import OpenK.AllK
import Wide.FinOn
import PySem.Challenge.RW_ge0005_02
open PySem PySem.W PyProof.Rows PySem.Spec PySem.Calls
set_option Elab.async false
set_option maxRecDepth 100000
set_option maxHeartbeats 8000000
set_option linter.unusedVariables false
open_top Mine.hd for PySem.Challenge.rw_ge0005_02
namespace Mine
-- open_top leaves the top's lines on: the contracts are walked without them
theorem lines_off : True := by
  w_top off
  trivial
-- part C0
theorem fill0 : (PySem.Challenge.rw_ge0005_02 = PySem.Challenge.rw_ge0005_02) ∧ (Mine.hd.heap_39 = Mine.hd.heap_39) := by
  k_fill
  exact ⟨rfl, rfl⟩
def Kp (T : List Addr) (h h' : Heap) : Prop := ∀ b o, b ∉ T → h.get? b = some o → h'.get? b = some o
theorem Kp.trans {T : List Addr} {h h' h'' : Heap} (a : Kp T h h') (b : Kp T h' h'') : Kp T h h'' := fun x o n e => b x o n (a x o n e)
theorem Kp.refl {T : List Addr} {h : Heap} : Kp T h h := fun _ _ _ e => e

def Fin (R : Value → Shared → Prop) (v : Value) (s : Shared) : Prop := R v s

section
variable {prog : Program} {w : World} {A₀ A : Around} {s : Shared} {base h₀ : Heap} {outer : List Env} {L : Addr} {m mg mb : Str → Option Value} {env : Env} {news : List (Addr × Obj)} {K : Frag}
  {Q E : Value → Shared → Prop} {name qual : Str} {params : Arguments} {body : List Stmt} {scope : Scope} {dV kV doc pm cdv ct oc : Value} {an od : Option Addr} {osl : Array (Option Value)} {f : Addr} {args : List Value} {binds : List (Str × Value)}
  {p : Program} {loose : List Str} {mean : ExcName → Option Value}

/-- a call of a top function, its ledger the callee's own, all else of the heap kept -/
theorem enterD (B : Below A₀ base outer h₀) (F : Fr h₀ L s.heap m) (X₀ : K.In h₀) (N : News h₀ L s.heap news) (T : Top p loose mean mg mb h₀) (hA : A.frames = some (env :: outer)) (hf : env.frame = some L) (hke : env.scope.kind = .function)
    (ho : K.lookup f = some ⟨oc, od, .func (fnOf name qual params body scope dV kV doc pm an cdv ct), osl⟩) (hcd : codeIn K cdv qual = true) (hroom : A.depth < recursionLimit)
    (hbind : BindsTo s (fnOf name qual params body scope dV kV doc pm an cdv ct) ⟨args, []⟩ binds) (hloc : ∀ y ∈ binds, scope.names.lookup y.1 = some .local)
    (h : ∀ g L' h₁, Kp (news.map (·.1)) s.heap g → Fr g L' h₁ (fun y => binds.reverse.lookup y) → News g L' h₁ news → Below A base (env :: outer) g → K.In g → Top p loose mean mg mb g → g.objs.size = L' → h₀.StaysIn g →
      wpAny (model prog w) (A.deeper (envOf qual scope L' f cdv)) (execs body (envOf qual scope L' f cdv))
        (fun fl s' => Fin Q (match fl with | .ret v => v | _ => .none) s') (fun _ _ => False)
        { s with heap := h₁, toks := s.toks + binds.length })
    (hcell : ∀ x ∈ scope.names, x.2 ≠ .cell) (hco : scope.isCoroutine = false) (hgen : scope.isGenerator = false) (hk : scope.kind = .function) :
    wpAny (model prog w) A (call (.ref f) args) Q E s := by
  obtain ⟨_, BG, st, _⟩ := groundX (R := fun _ _ => True) B F N hA hf hke
  refine wpAny_call (codeAny_call_def (fd := fnOf name qual params body scope dV kV doc pm an cdv ct) (body := body) (binds := binds) hroom ((X₀.keeps F.keep) _ _ ho) rfl (T.nolimit.keeps F.keep)
    (codeRec_of (X₀.keeps F.keep) hcd) rfl hbind hcell hloc (fun h₁ hns hk₁ => ?_) hco hgen hk)
  refine wpAny_mono (h (hideAll s.heap (news.map fun x : Addr × Obj => x.1)) s.heap.objs.size h₁ (fun b o nb e => hideAll_get _ e nb) ⟨hns, fun b o e => hk₁ b o (of_hideAll _ e), Nat.le_of_eq (hideAll_size _ _)⟩ ?_ BG (X₀.keeps st) (T.keeps st) (hideAll_size _ _) st) (fun fl s' hl => hl) fun _ _ x => x.elim
  exact fun q hq => ⟨hk₁ _ _ (N q hq).1, Nat.ne_of_lt (Heap.lt_size (N q hq).1), hideAll_none _ (List.mem_map_of_mem hq)⟩

theorem enterC (B : Below A₀ base outer h₀) (F : Fr h₀ L s.heap m) (X₀ : K.In h₀) (N : News h₀ L s.heap news) (T : Top p loose mean mg mb h₀) (hA : A.frames = some (env :: outer)) (hf : env.frame = some L) (hke : env.scope.kind = .function)
    (ho : K.lookup f = some ⟨oc, od, .func (fnOf name qual params body scope dV kV doc pm an cdv ct), osl⟩) (hcd : codeIn K cdv qual = true) (hroom : A.depth < recursionLimit)
    (hbind : BindsTo s (fnOf name qual params body scope dV kV doc pm an cdv ct) ⟨args, []⟩ binds) (hkind : (binds.all fun y => scope.names.lookup y.1 == some .local || scope.names.lookup y.1 == some .cell) = true)
    (hnd : ((cellsFrom 0 scope.names []).map (·.1)).Nodup)
    (h : ∀ g L' h₁ tk cells, Kp (news.map (·.1)) s.heap g → Fr g L' h₁ (bindL (envOfC qual scope L' f cdv).kindOf binds fun _ => none) → News g L' h₁ (cells ++ news) →
      CellsAre (bindC (envOfC qual scope L' f cdv).kindOf binds fun _ => none) (cellsFrom (L' + 1) scope.names []) cells → Below A base (env :: outer) g → K.In g → Top p loose mean mg mb g → (∀ p ∈ news, p.1 < L') → g.objs.size = L' → h₀.StaysIn g →
      wpAny (model prog w) (A.deeper (envOfC qual scope L' f cdv)) (execs body (envOfC qual scope L' f cdv))
        (fun fl s' => Fin Q (match fl with | .ret v => v | _ => .none) s') (fun _ _ => False)
        { s with heap := h₁, toks := tk })
    (hco : scope.isCoroutine = false) (hgen : scope.isGenerator = false) (hk : scope.kind = .function) :
    wpAny (model prog w) A (call (.ref f) args) Q E s := by
  obtain ⟨_, BG, st, _⟩ := groundX (R := fun _ _ => True) B F N hA hf hke
  have kinds : ∀ n, ∀ x ∈ binds, scope.names.lookup x.1 = some .local ∨ (scope.names.lookup x.1 = some .cell ∧ ((cellsFrom n scope.names []).lookup x.1).isSome = true) := by
    intro n x hx
    have q := List.all_eq_true.mp hkind x hx
    rcases Bool.or_eq_true_iff.mp q with q | q
    · exact .inl (by simpa using q)
    · have q' : scope.names.lookup x.1 = some .cell := by simpa using q
      exact .inr ⟨q', cellsFrom_some _ _ _ (.inl q')⟩
  refine wpAny_call (codeAny_call_function hroom ((X₀.keeps F.keep) _ _ ho) rfl hco hgen rfl (codeRec_of (X₀.keeps F.keep) hcd) (hbind _ _ _ _ ?_))
  refine wpAny_newFunctionEnv_cells hk (kinds _) fun env' he s' x => ?_
  subst he
  have hk₁ := x.toInCall.keep
  refine ⟨(T.nolimit.keeps F.keep).keeps hk₁, codeAny_func ?_⟩
  obtain ⟨h₁, tk, rfl, _⟩ := x.done
  obtain ⟨cells, NC, Y⟩ := Cl.news (h₀ := s.heap) (Nat.le_refl _) fun n c hm =>
    ⟨x.cell n c (lookup_of_mem_nodup (cellsFrom_names scope.names 0 (s.heap.objs.size + 1) [] [] rfl ▸ hnd) hm), x.above n c hm⟩
  refine wpAny_mono (h (hideAll s.heap (news.map fun x : Addr × Obj => x.1)) s.heap.objs.size h₁ tk cells (fun b o nb e => hideAll_get _ e nb) ⟨x.toInCall.ns, fun b o e => hk₁ b o (of_hideAll _ e), Nat.le_of_eq (hideAll_size _ _)⟩ ?_ Y BG (X₀.keeps st) (T.keeps st)
    (fun q hq => Heap.lt_size (N q hq).1) (hideAll_size _ _) st) (fun fl s' hl => hl) fun _ _ y => y.elim
  intro q hq
  rcases List.mem_append.mp hq with hq | hq
  · refine ⟨(NC q hq).1, (NC q hq).2.1, ?_⟩
    cases e : (hideAll s.heap (news.map (·.1))).get? q.1 with
    | none => rfl
    | some o => have := of_hideAll _ e; rw [(NC q hq).2.2] at this; cases this
  · exact ⟨hk₁ _ _ (N q hq).1, Nat.ne_of_lt (Heap.lt_size (N q hq).1), hideAll_none _ (List.mem_map_of_mem hq)⟩
end
local macro_rules | `(tactic| walk_at "myroom") => `(tactic| first | ktr_room | ((try simp only [depth_under_make, depth_under_kw, depth_in1, depth_deeper, depth_caller]); omega))
set_option hygiene false in
local macro_rules | `(tactic| walk_at "enter_d") => `(tactic| (refine' enterD ?k1 ?k2 ?k3 ?k4 ?k5 ?kA ?kF ?kK ?k6 ?k7 ?k8 ?k9 ?kB ?_ ?c5 ?c2 ?c3 ?c4; (case kA => exact rfl); (case kF => exact rfl); (case kK => first | exact rfl | assumption); (case k1 => k_asm); (case k2 => k_asm); (case k3 => k_asm); (case k4 => k_asm); (case k5 => k_asm); (case k6 => k_is); (case k7 => k_is); (case k8 => walk_at "myroom"); (case k9 => exact BindsTo.of_eq rfl); (case c5 => decide); (case kB => exact locs rfl); (case c2 => exact rfl); (case c3 => exact rfl); (case c4 => exact rfl); intro g' L' h' KG' F' N' B' X' T' zG' SG'; (try dsimp only); (try k_lift B'); (try k_fold)))
set_option hygiene false in
local macro_rules | `(tactic| walk_at "enter_c") => `(tactic| (refine' enterC ?k1 ?k2 ?k3 ?k4 ?k5 ?kA ?kF ?kK ?k6 ?k7 ?k8 ?k9 ?kB ?kD ?_ ?c2 ?c3 ?c4; (case kA => exact rfl); (case kF => exact rfl); (case kK => first | exact rfl | assumption); (case k1 => k_asm); (case k2 => k_asm); (case k3 => k_asm); (case k4 => k_asm); (case k5 => k_asm); (case k6 => k_is); (case k7 => k_is); (case k8 => walk_at "myroom"); (case k9 => exact BindsTo.of_eq rfl); (case kB => exact rfl); (case kD => decide +kernel); (case c2 => exact rfl); (case c3 => exact rfl); (case c4 => exact rfl); intro g' L' h' tk' cells' KG' F' N' Y' B' X' T' l1 zG' SG'; (try k_lt l1); k_cells Y'; (try simp only [List.cons_append, List.nil_append] at N'); (try dsimp only); (try k_lift B'); (try k_fold)))
def CR (news : List (Addr × Obj)) (h : Heap) (c : Addr) (qual : Str) : Prop := ∃ oc vs t, ((c, oc) ∈ news ∨ h.get? c = some oc) ∧ oc.data = .fields vs ∧ vs[1]? = some (.str qual t)
theorem CR.at {news : List (Addr × Obj)} {h₀ h : Heap} {L : Addr} {m : Str → Option Value} {c : Addr} {qual : Str} (F : Fr h₀ L h m) (N : News h₀ L h news) (x : CR news h₀ c qual) : h.CodeRec (.ref c) qual :=
  let ⟨oc, vs, t, e, d, v⟩ := x
  ⟨c, oc, vs, t, rfl, e.elim (fun q => (N _ q).1) (fun q => F.keep _ _ q), d, v⟩
theorem CR.keeps {news : List (Addr × Obj)} {h h' : Heap} {c : Addr} {qual : Str} (k : ∀ b o, h.get? b = some o → h'.get? b = some o) (x : CR news h c qual) : CR news h' c qual :=
  let ⟨oc, vs, t, e, d, v⟩ := x
  ⟨oc, vs, t, e.imp id (k _ _), d, v⟩
/-- a maker's table: empty yet, or holding its nested def's code -/
def TabOk (line col : Nat) (qual : Str) (P : Addr) (h : Heap) : Prop :=
  h.get? P = some (tabObj #[]) ∨ ∃ c oc vs t, h.get? P = some (tabObj #[rawInt line, rawInt col, .ref c]) ∧ h.get? c = some oc ∧ oc.data = .fields vs ∧ vs[1]? = some (.str qual t) ∧ c ≠ P
theorem TabOk.keep {line col : Nat} {qual : Str} {P : Addr} {h h' : Heap} (x : TabOk line col qual P h) (k : ∀ b o, h.get? b = some o → h'.get? b = some o) : TabOk line col qual P h' :=
  x.imp (k _ _) fun ⟨c, oc, vs, t, a, b, d, v, n⟩ => ⟨c, oc, vs, t, k _ _ a, k _ _ b, d, v, n⟩
theorem at_elim {K : Frag} {a : Addr} {o o' : Obj} {P : Prop} (e : K.lookup a = some o) (ho : K.lookup a = some o') (k : o = o' → P) : P := k (by rw [e] at ho; exact Option.some.inj ho)
theorem Kp.list {T : List Addr} {h h' : Heap} (k : Kp T h h') {l : Addr} {vs : Array Value} (hl : h.IsList l vs) (hT : ∀ q ∈ T, ∃ ps, h.get? q = some (tabObj ps)) : h'.IsList l vs := by
  obtain ⟨o, ho, hc, hr⟩ := hl
  refine ⟨o, k _ _ (fun hm => ?_) ho, hc, hr⟩
  obtain ⟨ps, e⟩ := hT _ hm
  rw [ho] at e
  cases e
  cases hc
theorem tab_end {line col : Nat} {qual : Str} {P c : Addr} {h g h'' : Heap} {L' : Addr} {m' : Str → Option Value} {news : List (Addr × Obj)} {ps : Array Value} (KG : Kp [P] h g) (F : Fr g L' h'' m') (N : News g L' h'' news) (hm : (P, tabObj ps) ∈ news)
    (hps : ps = #[rawInt line, rawInt col, .ref c]) (x : CR news g c qual) (ne : c ≠ P) : Kp [P] h h'' ∧ TabOk line col qual P h'' := by
  subst hps
  refine ⟨fun b o nb e => F.keep _ _ (KG b o nb e), .inr ?_⟩
  obtain ⟨oc, vs, t, e, d, v⟩ := x
  exact ⟨c, oc, vs, t, (N _ hm).1, e.elim (fun q => (N _ q).1) (fun q => F.keep _ _ q), d, v, ne⟩
def Held (P : Prop) : Prop := P
theorem Held.out {P : Prop} (h : Held P) : P := h
-- part C1
abbrev qI : Str := Str.ofString "_int2digits.<locals>.inner"
abbrev qD : Str := Str.ofString "_digits2int.<locals>.inner"
def noF (o : Obj) : Bool := match o.data with
  | .fields vs => (match o.cls with | .none => false | _ => true) && (match (vs[1]? : Option Value) with | some (.str _ _) => false | _ => true)
  | _ => true
theorem noF_cell {o : Obj} {v : Option Value} (h : o.data = .cell v) : noF o = true := by unfold noF; rw [h]
/-- a maker's table, as the ledger holds it: empty, or the nested def's code at c -/
def Tb (line col : Nat) (qual : Str) (P : Addr) (ps : Array Value) (c : Addr) (oc : Obj) : Prop :=
  (ps = #[] ∧ c = P ∧ oc = tabObj #[]) ∨ ∃ vs t, ps = #[rawInt line, rawInt col, .ref c] ∧ oc.data = .fields vs ∧ vs[1]? = some (.str qual t) ∧ c ≠ P
theorem Tb.noF {line col : Nat} {qual : Str} {P : Addr} {ps : Array Value} {c : Addr} {oc : Obj} (h : Tb line col qual P ps c oc) : noF oc = false := by
  rcases h with ⟨_, _, rfl⟩ | ⟨vs, _, _, hd, hv, _⟩
  · rfl
  · unfold Mine.noF; rw [hd]; simp only [hv, Bool.and_false]
structure TS where
  ps : Array Value
  qs : Array Value
  c1 : Addr
  c2 : Addr
  o1 : Obj
  o2 : Obj
abbrev TS.led (x : TS) : List (Addr × Obj) := [(30, tabObj x.ps), (37, tabObj x.qs), (x.c1, x.o1), (x.c2, x.o2)]
structure TS.Ok (x : TS) : Prop where
  i : Tb 32 4 qI 30 x.ps x.c1 x.o1
  d : Tb 47 4 qD 37 x.qs x.c2 x.o2
def AllNe (d : Nat) : List (Addr × Obj) → Prop
  | [] => True
  | p :: r => @Ne Nat p.1 d ∧ AllNe d r
theorem allNe_of {d : Addr} : ∀ {l : List (Addr × Obj)}, (∀ p ∈ l, p.1 ≠ d) → AllNe d l
  | [], _ => trivial
  | p :: _, h => ⟨h p (.head _), allNe_of fun q hq => h q (.tail _ hq)⟩
theorem of_allNe {d : Addr} {l : List (Addr × Obj)} (h : AllNe d l) : ∀ p ∈ l, p.1 ≠ d := by
  induction l with
  | nil => intro p hp; cases hp
  | cons q r ih =>
    intro p hp
    rcases List.mem_cons.mp hp with e | hp
    · rw [e]; exact h.1
    · exact ih h.2 p hp
def AllSep : List (Addr × Obj) → List (Addr × Obj) → Prop
  | [], _ => True
  | p :: r, own => AllNe p.1 own ∧ AllSep r own
theorem allSep_of {own : List (Addr × Obj)} : ∀ {new : List (Addr × Obj)}, (∀ p ∈ new, ∀ q ∈ own, q.1 ≠ p.1) → AllSep new own
  | [], _ => trivial
  | p :: _, h => ⟨allNe_of (h p (.head _)), allSep_of fun q hq => h q (.tail _ hq)⟩
theorem of_allSep {own : List (Addr × Obj)} {new : List (Addr × Obj)} (h : AllSep new own) : ∀ p ∈ new, ∀ q ∈ own, q.1 ≠ p.1 := by
  induction new with
  | nil => intro p hp; cases hp
  | cons a r ih =>
    intro p hp
    rcases List.mem_cons.mp hp with e | hp
    · rw [e]; exact of_allNe h.1
    · exact ih h.2 p hp
structure Apart (new own : List (Addr × Obj)) (y : TS) : Prop where
  sep : AllSep new own
  a : AllNe 30 (new ++ own)
  b : AllNe 37 (new ++ own)
  c : AllNe y.c1 (new ++ own)
  d : AllNe y.c2 (new ++ own)
def Ctr (prog : Program) (w : World) (p : Program) (loose : List Str) (mean : ExcName → Option Value) (mg mb : Str → Option Value) (base : Heap) (f : Addr) (args : List Value) (D : Nat) (Pre : List (Addr × Obj) → Prop) (Post : Value → List (Addr × Obj) → Prop) : Prop :=
  ∀ (dp un : Nat) (gd : Option (List Code)) (cn : Str) (cs : Scope) (a : Addr) (ccd : Value) (cl : List (Str × Addr)) (outer : List Env) (A₀ : Around) (h₀ : Heap) (L : Addr) (m : Str → Option Value) (s : Shared) (Q E : Value → Shared → Prop) (own : List (Addr × Obj)) (x : TS),
    Below A₀ base outer h₀ → Fr h₀ L s.heap m → (Mine.hd.heap_39 w.params).In h₀ → News h₀ L s.heap (own ++ x.led) → Top p loose mean mg mb h₀ → cs.kind = .function → x.Ok → (∀ q ∈ own, q.1 ∉ [30, 37, x.c1, x.c2]) → Pre own →
    dp + D < recursionLimit → un + 8 * D < cLine →
    (∀ (v : Value) (new : List (Addr × Obj)) (y : TS) (h' : Heap) (tk' : Nat), Fr h₀ L h' m → News h₀ L h' (new ++ (own ++ y.led)) → y.Ok → Apart new own y → Post v new → Q v { s with heap := h', toks := tk' }) →
    wpAny (model prog w) (ktrTop dp un gd cn cs L a ccd cl outer) (call (.ref f) args) Q E s

theorem kinds_apart {h₀ h : Heap} {L : Addr} {l : List (Addr × Obj)} {d : Addr} {o : Obj} (N : News h₀ L h l) (hn : (l.all fun q => noF q.2) = true) (e : h.get? d = some o) (ho : noF o = false) : ∀ p ∈ l, p.1 ≠ d := fun p hp q => by
  have h1 := (N p hp).1
  rw [q, e] at h1
  have h2 := List.all_eq_true.mp hn p hp
  rw [← Option.some.inj h1, ho] at h2
  cases h2
theorem ctr_end {h₀ g h h' : Heap} {L L' : Addr} {m m' : Str → Option Value} {own new news' : List (Addr × Obj)} {x : TS} (y : TS) (F : Fr h₀ L h m) (N : News h₀ L h (own ++ x.led)) (ok : x.Ok) (hn : ∀ q ∈ own, q.1 ∉ [30, 37, x.c1, x.c2])
    {T : List Addr} (hT : ∀ b ∈ T, b ∈ x.led.map (·.1)) (KG : Kp T h g) (SG : h₀.StaysIn g) (F' : Fr g L' h' m') (N' : News g L' h' news') (hs : ∀ p ∈ new, p ∈ news') (hy : ∀ p ∈ y.led, p ∈ news' ∨ (p ∈ x.led ∧ p.1 ∉ T)) (hnn : (new.all fun q => noF q.2) = true) (oky : y.Ok) :
    Fr h₀ L h' m ∧ News h₀ L h' (new ++ (own ++ y.led)) ∧ Apart new own y := by
  have NO : News h₀ L h own := fun p hp => N p (List.mem_append_left _ hp)
  have NT : News h₀ L h x.led := fun p hp => N p (List.mem_append_right _ hp)
  obtain ⟨oL, es, ep, hL, hLd, hLk, hLf⟩ := F.ns
  have nL : L ∉ T := fun q => by
    obtain ⟨p, hp, e⟩ := List.mem_map.mp (hT _ q)
    exact (NT p hp).2.1 e
  have gL := KG L oL nL hL
  have offT : ∀ q ∈ own, q.1 ∉ T := fun q hq hm => hn q hq (hT _ hm)
  have FF : Fr h₀ L h' m := ⟨⟨oL, es, ep, F'.keep _ _ gL, hLd, hLk, hLf⟩, fun b o e => F'.keep b o (SG b o e), F.above⟩
  have NN : News h₀ L h' (new ++ (own ++ y.led)) := fun p hp => by
    have nw : p ∈ news' → h'.get? p.1 = some p.2 ∧ p.1 ≠ L ∧ h₀.get? p.1 = none := fun hp => by
      have h1 := N' p hp
      refine ⟨h1.1, fun q => ?_, ?_⟩
      · have h2 := h1.2.2; rw [q, gL] at h2; cases h2
      · cases q : h₀.get? p.1 with
        | none => rfl
        | some o => have h2 := h1.2.2; rw [SG _ _ q] at h2; cases h2
    rcases List.mem_append.mp hp with hp | hp
    · exact nw (hs p hp)
    · rcases List.mem_append.mp hp with hp | hp
      · exact ⟨F'.keep _ _ (KG _ _ (offT p hp) (NO p hp).1), (NO p hp).2⟩
      · rcases hy p hp with hp | ⟨hp, hq⟩
        · exact nw hp
        · exact ⟨F'.keep _ _ (KG _ _ hq (NT p hp).1), (NT p hp).2⟩
  have NB : News h₀ L h' new := fun p hp => NN p (List.mem_append_left _ hp)
  have at' : ∀ p ∈ y.led, h'.get? p.1 = some p.2 := fun p hp => (NN p (List.mem_append_right _ (List.mem_append_right _ hp))).1
  have ownY : ∀ e ∈ y.led, ∀ q ∈ own, q.1 ≠ e.1 := fun e he q hq ee => by
    rcases hy e he with h1 | ⟨h1, _⟩
    · have h2 := (N' e h1).2.2
      rw [← ee, KG _ _ (offT q hq) (NO q hq).1] at h2
      cases h2
    · exact hn q hq (ee ▸ (show e.1 ∈ x.led.map (·.1) from List.mem_map_of_mem h1))
  have both : ∀ e ∈ y.led, noF e.2 = false → AllNe e.1 (new ++ own) := fun e he hk => allNe_of fun p hp => (List.mem_append.mp hp).elim (kinds_apart NB hnn (at' e he) hk p) (ownY e he p)
  refine ⟨FF, NN, allSep_of fun p hp q hq e => ?_, both _ (.head _) rfl, both _ (.tail _ (.head _)) rfl, both _ (.tail _ (.tail _ (.head _))) oky.i.noF, both _ (.tail _ (.tail _ (.tail _ (.head _)))) oky.d.noF⟩
  have h1 := (N' p (hs p hp)).2.2
  rw [← e, KG _ _ (offT q hq) (NO q hq).1] at h1
  cases h1
theorem Tb.ne {line col line' col' : Nat} {qual qual' : Str} {P P' : Addr} {ps ps' : Array Value} {c c' : Addr} {oc oc' : Obj} {h : Heap} (a : Tb line col qual P ps c oc) (b : Tb line' col' qual' P' ps' c' oc') (hc : h.get? c = some oc) (hP : h.get? P' = some (tabObj ps')) (hne : P ≠ P') : c ≠ P' := fun e => by
  rcases a with ⟨_, rfl, _⟩ | ⟨vs, t, _, hd, hv, _⟩
  · exact hne e
  · rw [e, hP] at hc
    cases hc
    cases hd
    rcases b with ⟨rfl, _, _⟩ | ⟨_, _, rfl, _⟩ <;> cases hv
theorem ts_ne {h₀ h : Heap} {L : Addr} {own : List (Addr × Obj)} {x : TS} (N : News h₀ L h (own ++ x.led)) (ok : x.Ok) : x.c1 ≠ 37 ∧ x.c2 ≠ 30 := by
  have at' : ∀ p ∈ x.led, h.get? p.1 = some p.2 := fun p hp => (N p (List.mem_append_right _ hp)).1
  exact ⟨ok.i.ne ok.d (at' _ (.tail _ (.tail _ (.head _)))) (at' _ (.tail _ (.head _))) (by decide), ok.d.ne ok.i (at' _ (.tail _ (.tail _ (.tail _ (.head _))))) (at' _ (.head _)) (by decide)⟩
theorem ctr_fin {h₀ g h h' : Heap} {L L' : Addr} {m m' : Str → Option Value} {own news' : List (Addr × Obj)} {x : TS} (new : List (Addr × Obj)) (y : TS) (F : Fr h₀ L h m) (N : News h₀ L h (own ++ x.led)) (ok : x.Ok) (hn : ∀ q ∈ own, q.1 ∉ [30, 37, x.c1, x.c2])
    (KG : Kp [30, 37, x.c1, x.c2] h g) (SG : h₀.StaysIn g) (F' : Fr g L' h' m') (N' : News g L' h' news') (hs : ∀ p ∈ new ++ [(30, tabObj y.ps), (37, tabObj y.qs), (y.c1, y.o1), (y.c2, y.o2)], p ∈ news') (hnn : (new.all fun q => noF q.2) = true) (oky : y.Ok) :
    Fr h₀ L h' m ∧ News h₀ L h' (new ++ (own ++ y.led)) ∧ Apart new own y :=
  ctr_end (T := [30, 37, x.c1, x.c2]) y F N ok hn (fun _ hb => hb) KG SG F' N' (fun p hp => hs p (List.mem_append_left _ hp)) (fun p hp => .inl (hs p (List.mem_append_right _ hp))) hnn oky
/-- the ledger's tail is the four -/
inductive Tl4 (x : TS) : List (Addr × Obj) → List (Addr × Obj) → Prop
  | base : Tl4 x [(30, tabObj x.ps), (37, tabObj x.qs), (x.c1, x.o1), (x.c2, x.o2)] []
  | cons {p n o} : Tl4 x n o → Tl4 x (p :: n) (p :: o)
theorem Tl4.eq {x : TS} : ∀ {n o : List (Addr × Obj)}, Tl4 x n o → n = o ++ x.led
  | _, _, .base => rfl
  | _, _, .cons (p := p) r => by rw [r.eq]; rfl
theorem off_of {h₀ h : Heap} {L : Addr} {own : List (Addr × Obj)} {x : TS} (N : News h₀ L h (own ++ x.led)) (ok : x.Ok) (hn : ∀ q ∈ own, noF q.2 = true ∨ (q.1 ≠ 30 ∧ q.1 ≠ 37 ∧ q.1 ≠ x.c1 ∧ q.1 ≠ x.c2)) : ∀ q ∈ own, q.1 ∉ [30, 37, x.c1, x.c2] := fun q hq hm => by
  have NQ : News h₀ L h [q] := fun p hp => N p (List.mem_append_left _ (List.mem_singleton.mp hp ▸ hq))
  have at' : ∀ p ∈ x.led, h.get? p.1 = some p.2 := fun p hp => (N p (List.mem_append_right _ hp)).1
  rcases hn q hq with h1 | ⟨h1, h2, h3, h4⟩
  · have ka : ∀ e ∈ x.led, noF e.2 = false → q.1 ≠ e.1 := fun e he hk => kinds_apart NQ (by simp [h1]) (at' e he) hk q (.head _)
    simp only [List.mem_cons, List.not_mem_nil, or_false] at hm
    rcases hm with e | e | e | e
    · exact ka _ (.head _) rfl e
    · exact ka _ (.tail _ (.head _)) rfl e
    · exact ka _ (.tail _ (.tail _ (.head _))) ok.i.noF e
    · exact ka _ (.tail _ (.tail _ (.tail _ (.head _)))) ok.d.noF e
  · simp only [List.mem_cons, List.not_mem_nil, or_false] at hm
    rcases hm with e | e | e | e
    · exact h1 e
    · exact h2 e
    · exact h3 e
    · exact h4 e
theorem ctr_use {prog : Program} {w : World} {p : Program} {loose : List Str} {mean : ExcName → Option Value} {mg mb : Str → Option Value} {base : Heap} {f : Addr} {args : List Value} {D : Nat} {Pre : List (Addr × Obj) → Prop} {Post : Value → List (Addr × Obj) → Prop}
    (c : Ctr prog w p loose mean mg mb base f args D Pre Post)
    {dp un : Nat} {gd : Option (List Code)} {cn : Str} {cs : Scope} {a : Addr} {ccd : Value} {cl : List (Str × Addr)} {outer : List Env} {A₀ : Around} {h₀ : Heap} {L : Addr} {m : Str → Option Value} {s : Shared} {Q E : Value → Shared → Prop} {own news : List (Addr × Obj)} {x : TS}
    (B : Below A₀ base outer h₀) (F : Fr h₀ L s.heap m) (X : (Mine.hd.heap_39 w.params).In h₀) (N : News h₀ L s.heap news) (ht : Tl4 x news own) (T : Top p loose mean mg mb h₀) (hk : cs.kind = .function) (ok : x.Ok) (hn : ∀ q ∈ own, noF q.2 = true ∨ (q.1 ≠ 30 ∧ q.1 ≠ 37 ∧ q.1 ≠ x.c1 ∧ q.1 ≠ x.c2)) (pre : Pre own)
    (hd : dp + D < recursionLimit) (hu : un + 8 * D < cLine)
    (k : ∀ (v : Value) (new : List (Addr × Obj)) (y : TS) (h' : Heap) (tk' : Nat), Fr h₀ L h' m → News h₀ L h' (new ++ (own ++ y.led)) → y.Ok → Apart new own y → Post v new → Q v { s with heap := h', toks := tk' }) :
    wpAny (model prog w) (ktrTop dp un gd cn cs L a ccd cl outer) (call (.ref f) args) Q E s :=
  c _ _ _ _ _ _ _ _ _ _ _ _ _ _ _ _ _ _ B F X (ht.eq ▸ N) T hk ok (off_of (ht.eq ▸ N) ok hn) pre hd hu k
/-- a call of a top function, walked in place -/
local macro_rules | `(tactic| walk_at "enter_k") => `(tactic| (refine wpAny_call ?_; (refine' code_def ?k1 ?k2 ?k3 ?k4 ?k5 ?kA ?kF ?kK ?k6 ?k7 ?k8 ?k9 ?kB ?_ ?c2 ?c3 ?c4 ?c5; (case kA => exact rfl); (case kF => exact rfl); (case kK => first | exact rfl | assumption); (case k1 => k_asm); (case k2 => k_asm); (case k3 => k_asm); (case k4 => k_asm); (case k5 => k_asm); (case k6 => k_is); (case k7 => k_is); (case k8 => ktr_room); (case k9 => exact BindsTo.of_eq rfl); (case c5 => decide); (case kB => exact locs rfl); (case c2 => exact rfl); (case c3 => exact rfl); (case c4 => exact rfl); k_whole; intro g' L' h' FG' F' N' B' X' T'; (try dsimp only); (try k_fold))))
/-- two addresses apart, by the facts that a contract hands on; else the kit's way -/
local macro_rules | `(tactic| k_ne) => `(tactic| (refine neN ?_; (try dsimp only); first
  | exact Mine.of_allNe (by assumption) (_, _) (by k_mem)
  | exact Ne.symm (Mine.of_allNe (by assumption) (_, _) (by k_mem))
  | omega))
/-- all that the ledger holds beside the four is apart from them -/
local macro_rules | `(tactic| walk_at "off4") => `(tactic| (repeat' (first | exact List.forall_mem_nil _ | (refine List.forall_mem_cons.mpr (And.intro ?_ ?_)) | exact Or.inl rfl | exact Or.inl (by assumption) | exact Or.inr (And.intro (by k_ne) (And.intro (by k_ne) (And.intro (by k_ne) (by k_ne)))))))
-- part L1
section
def dv (n : Nat) : List Int → Int
  | [] => 0
  | x :: r => x + 2 ^ n * dv n r
theorem dv_append (n : Nat) : ∀ a b : List Int, dv n (a ++ b) = dv n a + 2 ^ (n * a.length) * dv n b
  | [], b => by simp [dv]
  | x :: a, b => by
    simp only [List.cons_append, dv, dv_append n a b, List.length_cons, Nat.mul_add, Nat.mul_one, Int.pow_add, Int.mul_add, Int.add_assoc, Int.add_right_inj]
    rw [show (2:Int) ^ (n * a.length) * 2 ^ n = 2 ^ n * 2 ^ (n * a.length) from Int.mul_comm _ _, Int.mul_assoc]
abbrev sl (ns : List Int) (i j : Int) : List Int := (ns.drop i.toNat).take (j - i).toNat
theorem sl_len {ns : List Int} {i j : Int} (h0 : 0 ≤ i) (h1 : i ≤ j) (h2 : j ≤ ns.length) : (sl ns i j).length = (j - i).toNat := by
  simp only [sl, List.length_take, List.length_drop]; omega
theorem sl_cut {ns : List Int} {i m j : Int} (h0 : 0 ≤ i) (h1 : i ≤ m) (h2 : m ≤ j) : sl ns i j = sl ns i m ++ sl ns m j := by
  unfold sl
  have e1 : (j - i).toNat = (m - i).toNat + (j - m).toNat := by omega
  have e2 : m.toNat = i.toNat + (m - i).toNat := by omega
  rw [e1, List.take_add, List.drop_drop, ← e2]
theorem sl_one {ns : List Int} {i : Int} (h0 : 0 ≤ i) (h1 : i < ns.length) : sl ns i (i + 1) = [ns.getD i.toNat 0] := by
  unfold sl
  have h : i.toNat < ns.length := by omega
  rw [show (i + 1 - i).toNat = 1 by omega, List.drop_eq_getElem_cons h, List.take_succ_cons, List.take_zero, List.getD_eq_getElem?_getD, List.getElem?_eq_getElem h]
  rfl
theorem sl_all {ns : List Int} : sl ns 0 ns.length = ns := by simp [sl]
theorem dv_one {n : Nat} {ns : List Int} {i : Int} (h0 : 0 ≤ i) (h1 : i < ns.length) : dv n (sl ns i (i + 1)) = ns.getD i.toNat 0 := by rw [sl_one h0 h1]; simp [dv]
theorem dv_cut {n : Nat} {ns : List Int} {i m j : Int} (h0 : 0 ≤ i) (h1 : i ≤ m) (h2 : m ≤ j) (h3 : j ≤ ns.length) :
    dv n (sl ns m j) * 2 ^ ((m - i) * (n : Int)).toNat + dv n (sl ns i m) = dv n (sl ns i j) := by
  rw [sl_cut h0 h1 h2, dv_append, sl_len h0 h1 (by omega)]
  have e : ((m - i) * (n : Int)).toNat = n * (m - i).toNat := by
    have : ((m - i) * (n:Int)) = ((n * (m - i).toNat : Nat) : Int) := by
      rw [Int.natCast_mul, Int.mul_comm, Int.toNat_of_nonneg (by omega)]
    rw [this]; omega
  rw [e, Int.mul_comm, Int.add_comm]
theorem dv_bound {n : Nat} : ∀ {l : List Int}, (∀ x ∈ l, 0 ≤ x ∧ x < 2 ^ n) → 0 ≤ dv n l ∧ dv n l < 2 ^ (n * l.length)
  | [], _ => by simp [dv]
  | x :: r, h => by
    have hx := h x (.head _)
    have hr := dv_bound (l := r) fun y hy => h y (.tail _ hy)
    have hp : (0:Int) < 2 ^ n := Int.pow_pos (by decide)
    simp only [dv, List.length_cons, Nat.mul_add, Nat.mul_one, Int.pow_add]
    have e1 : 0 ≤ 2 ^ n * dv n r := Int.mul_nonneg (by omega) hr.1
    have e2 : 2 ^ n * dv n r ≤ 2 ^ n * (2 ^ (n * r.length) - 1) := Int.mul_le_mul_of_nonneg_left (by omega) (by omega)
    have e3 : (2:Int) ^ n * (2 ^ (n * r.length) - 1) = 2 ^ (n * r.length) * 2 ^ n - 2 ^ n := by rw [Int.mul_sub, Int.mul_one, Int.mul_comm]
    constructor
    · omega
    · omega
theorem sl_mem {ns : List Int} {i j x : Int} (h : x ∈ sl ns i j) : x ∈ ns := List.mem_of_mem_drop (List.mem_of_mem_take h)
theorem bits_of {a : Int} {k : Nat} (h0 : 0 ≤ a) (h : a < 2 ^ k) : Builtin.Int.intBits a ≤ k := by
  unfold Builtin.Int.intBits
  split
  · omega
  · rename_i hz
    have hz : a ≠ 0 := by simpa using hz
    have h1 : a.natAbs < 2 ^ k := by
      have : ((a.natAbs : Nat) : Int) < ((2 ^ k : Nat) : Int) := by rw [Int.natCast_pow]; simp only [Int.natAbs_of_nonneg h0]; exact_mod_cast h
      exact_mod_cast this
    have := (Nat.log2_lt (by omega)).mpr h1
    omega
theorem fdiv2 (a : Int) : a.fdiv (2 ^ (1 : Int).toNat) = a / 2 := by rw [Int.fdiv_eq_ediv_of_nonneg _ (by decide)]; rfl
theorem shl_room {n : Nat} {ns : List Int} {i m j : Int} (hb : ∀ x ∈ ns, 0 ≤ x ∧ x < 2 ^ n) (h0 : 0 ≤ i) (h1 : i ≤ m) (h2 : m ≤ j) (h3 : j ≤ ns.length) (hl : ns.length < 100) (hn : n < 100) :
    (Builtin.Int.intBits (dv n (sl ns m j)) : Int) + (m - i) * (n : Int) ≤ 2 ^ 27 := by
  have hd := dv_bound (n := n) (l := sl ns m j) fun x hx => hb x (sl_mem hx)
  have hk := bits_of hd.1 hd.2
  rw [sl_len (by omega) h2 h3] at hk
  have e1 : n * (j - m).toNat ≤ 100 * 100 := Nat.mul_le_mul (by omega) (by omega)
  have e2 : (m - i) * (n : Int) ≤ 100 * 100 := Int.mul_le_mul (by omega) (by omega) (by omega) (by omega)
  omega
theorem shl_pos {n : Nat} {i m : Int} (h1 : i ≤ m) : 0 ≤ (m - i) * (n : Int) := Int.mul_nonneg (by omega) (by omega)
end
-- part L2
section
def dg (n : Nat) : Nat → Int → List Int
  | 0, _ => []
  | k + 1, x => (x % 2 ^ n) :: dg n k (x / 2 ^ n)
theorem dg_len {n : Nat} : ∀ {k : Nat} {x : Int}, (dg n k x).length = k
  | 0, _ => rfl
  | k + 1, x => by simp [dg, dg_len]
theorem two_pos (n : Nat) : (0 : Int) < 2 ^ n := Int.pow_pos (by decide)
theorem dg_bound {n : Nat} : ∀ {k : Nat} {x d : Int}, d ∈ dg n k x → 0 ≤ d ∧ d < 2 ^ n
  | k + 1, x, d, h => by
    rcases List.mem_cons.mp h with rfl | h
    · exact ⟨Int.emod_nonneg _ (by have := two_pos n; omega), Int.emod_lt_of_pos _ (two_pos n)⟩
    · exact dg_bound h
theorem div_lt_pow {n k : Nat} {x : Int} (h : x < 2 ^ (n * (k + 1))) : x / 2 ^ n < 2 ^ (n * k) := by
  apply Int.ediv_lt_of_lt_mul (two_pos n)
  rw [← Int.pow_add]
  rwa [Nat.mul_add, Nat.mul_one] at h
theorem dg_dv {n : Nat} : ∀ {k : Nat} {x : Int}, 0 ≤ x → x < 2 ^ (n * k) → dv n (dg n k x) = x
  | 0, x, h0, h => by simp at h; simp [dg, dv]; omega
  | k + 1, x, h0, h => by
    have h1 : 0 ≤ x / 2 ^ n := Int.ediv_nonneg h0 (by have := two_pos n; omega)
    simp only [dg, dv]
    rw [dg_dv h1 (div_lt_pow h)]
    exact Int.emod_add_mul_ediv x (2 ^ n)
theorem dg_add {n : Nat} : ∀ {a b : Nat} {x : Int}, dg n (a + b) x = dg n a (x % 2 ^ (n * a)) ++ dg n b (x / 2 ^ (n * a))
  | 0, b, x => by simp [dg]
  | a + 1, b, x => by
    have e : a + 1 + b = (a + b) + 1 := by omega
    rw [e]
    simp only [dg, List.cons_append]
    rw [dg_add (a := a) (b := b) (x := x / 2 ^ n)]
    have hp := two_pos n
    have hq := two_pos (n * a)
    have e1 : (2 : Int) ^ (n * (a + 1)) = 2 ^ n * 2 ^ (n * a) := by rw [Nat.mul_add, Nat.mul_one, Int.pow_add, Int.mul_comm]
    have e2 : x % 2 ^ (n * (a + 1)) % 2 ^ n = x % 2 ^ n := by rw [e1]; exact Int.emod_emod_of_dvd x (Int.dvd_mul_right _ _)
    have e3 : x / 2 ^ (n * (a + 1)) = x / 2 ^ n / 2 ^ (n * a) := by rw [e1, Int.ediv_ediv_of_nonneg (Int.le_of_lt hp)]
    have e4 : x % 2 ^ (n * (a + 1)) / 2 ^ n = x / 2 ^ n % 2 ^ (n * a) := by
      rw [e1, Int.emod_def, Int.emod_def, ← Int.ediv_ediv_of_nonneg (Int.le_of_lt hp), Int.mul_assoc, Int.sub_eq_add_neg, ← Int.mul_neg, Int.add_mul_ediv_left _ _ (by omega)]
      omega
    rw [e2, e3, e4]
theorem and_sub (x s : Nat) : x &&& (x / 2 ^ s * 2 ^ s) = x / 2 ^ s * 2 ^ s := by
  rw [← Nat.shiftRight_eq_div_pow, ← Nat.shiftLeft_eq]
  apply Nat.eq_of_testBit_eq
  intro i
  rw [Nat.testBit_and, Nat.testBit_shiftLeft, Nat.testBit_shiftRight]
  by_cases h : i ≥ s
  · simp [h, show s + (i - s) = i by omega]
  · simp [h]
theorem xor_low {x : Int} {s : Nat} (h : 0 ≤ x) : Builtin.bitXor x (x / 2 ^ s * 2 ^ s) = x % 2 ^ s := by
  have hp := two_pos s
  have h2 : 0 ≤ x / 2 ^ s := Int.ediv_nonneg h (by omega)
  have h3 : 0 ≤ x / 2 ^ s * 2 ^ s := Int.mul_nonneg h2 (by omega)
  rw [bitXor_and, bitAnd_pp h h3]
  have hx : x = (x.toNat : Int) := by omega
  have e : (x / 2 ^ s * 2 ^ s).toNat = x.toNat / 2 ^ s * 2 ^ s := by
    have : x / 2 ^ s * 2 ^ s = ((x.toNat / 2 ^ s * 2 ^ s : Nat) : Int) := by
      rw [Int.natCast_mul, Int.natCast_ediv, Int.natCast_pow, ← hx]; rfl
    rw [this]; exact Int.toNat_natCast _
  rw [e, and_sub, ← e, Int.toNat_of_nonneg h3, Int.emod_def, Int.mul_comm (2 ^ s)]
  omega
theorem fdiv_pow (a : Int) (s : Nat) : a.fdiv (2 ^ s) = a / 2 ^ s := Int.fdiv_eq_ediv_of_nonneg _ (Int.le_of_lt (two_pos s))
abbrev upd (ns : List Int) (i j : Int) (d : List Int) : List Int := ns.take i.toNat ++ d ++ ns.drop j.toNat
theorem upd_one {n : Nat} {ns : List Int} {i x : Int} (h0 : 0 ≤ i) (h1 : i < ns.length) (hx : 0 ≤ x) (hx2 : x < 2 ^ (n * (i + 1 - i).toNat)) : ns.set i.toNat x = upd ns i (i + 1) (dg n (i + 1 - i).toNat x) := by
  have e : (i + 1 - i).toNat = 1 := by omega
  rw [e] at hx2 ⊢
  rw [Nat.mul_one] at hx2
  have h : i.toNat < ns.length := by omega
  simp only [upd, dg, List.set_eq_take_append_cons_drop, if_pos h, Int.emod_eq_of_lt hx hx2, show (i + 1).toNat = i.toNat + 1 by omega, List.append_assoc, List.cons_append, List.nil_append]
theorem upd_len {ns d : List Int} {i j : Int} (h0 : 0 ≤ i) (h1 : i ≤ j) (h2 : j ≤ ns.length) (hd : d.length = (j - i).toNat) : (upd ns i j d).length = ns.length := by
  simp only [upd, List.length_append, List.length_take, List.length_drop, hd]; omega
theorem upd_cut {n : Nat} {ns : List Int} {i m j x : Int} (h0 : 0 ≤ i) (h1 : i ≤ m) (h2 : m ≤ j) (h3 : j ≤ ns.length) :
    upd (upd ns i m (dg n (m - i).toNat (x % 2 ^ (n * (m - i).toNat)))) m j (dg n (j - m).toNat (x / 2 ^ (n * (m - i).toNat))) = upd ns i j (dg n (j - i).toNat x) := by
  have e : (j - i).toNat = (m - i).toNat + (j - m).toNat := by omega
  rw [e, dg_add]
  have hl : (ns.take i.toNat ++ dg n (m - i).toNat (x % 2 ^ (n * (m - i).toNat))).length = m.toNat := by
    simp only [List.length_append, List.length_take, dg_len]; omega
  unfold upd
  have e1 : (ns.take i.toNat ++ dg n (m - i).toNat (x % 2 ^ (n * (m - i).toNat)) ++ ns.drop m.toNat).take m.toNat = ns.take i.toNat ++ dg n (m - i).toNat (x % 2 ^ (n * (m - i).toNat)) := by
    rw [← hl, List.take_left']; rfl
  have e2 : (ns.take i.toNat ++ dg n (m - i).toNat (x % 2 ^ (n * (m - i).toNat)) ++ ns.drop m.toNat).drop j.toNat = ns.drop j.toNat := by
    have : j.toNat = (ns.take i.toNat ++ dg n (m - i).toNat (x % 2 ^ (n * (m - i).toNat))).length + (j.toNat - m.toNat) := by rw [hl]; omega
    rw [this, List.drop_append, List.drop_eq_nil_of_le (by omega), List.nil_append, List.drop_drop, hl]
    congr 1; omega
  rw [e1, e2]; simp only [List.append_assoc]
theorem shift_nat {n : Nat} {i m : Int} (h1 : i ≤ m) : ((m - i) * (n : Int)).toNat = n * (m - i).toNat := by
  have : ((m - i) * (n:Int)) = ((n * (m - i).toNat : Nat) : Int) := by
    rw [Int.natCast_mul, Int.mul_comm, Int.toNat_of_nonneg (by omega)]
  rw [this]; omega
theorem cut_low {n : Nat} {i m x : Int} (h1 : i ≤ m) (hx : 0 ≤ x) :
    Builtin.bitXor x (x.fdiv (2 ^ ((m - i) * (n : Int)).toNat) * 2 ^ ((m - i) * (n : Int)).toNat) = x % 2 ^ (n * (m - i).toNat) := by
  rw [shift_nat h1, fdiv_pow, xor_low hx]
theorem cut_high {n : Nat} {i m x : Int} (h1 : i ≤ m) : x.fdiv (2 ^ ((m - i) * (n : Int)).toNat) = x / 2 ^ (n * (m - i).toNat) := by
  rw [shift_nat h1, fdiv_pow]
theorem low_lt {s : Nat} {x : Int} : 0 ≤ x % 2 ^ s ∧ x % 2 ^ s < 2 ^ s := ⟨Int.emod_nonneg _ (by have := two_pos s; omega), Int.emod_lt_of_pos _ (two_pos s)⟩
theorem high_lt {n : Nat} {i m j x : Int} (h1 : i ≤ m) (h2 : m ≤ j) (hx : 0 ≤ x) (h : x < 2 ^ (n * (j - i).toNat)) : 0 ≤ x / 2 ^ (n * (m - i).toNat) ∧ x / 2 ^ (n * (m - i).toNat) < 2 ^ (n * (j - m).toNat) := by
  refine ⟨Int.ediv_nonneg hx (by have := two_pos (n * (m - i).toNat); omega), ?_⟩
  apply Int.ediv_lt_of_lt_mul (two_pos _)
  rw [← Int.pow_add, ← Nat.mul_add]
  rwa [show (j - m).toNat + (m - i).toNat = (j - i).toNat by omega]
theorem shl_room2 {n : Nat} {i m j x : Int} (h0 : 0 ≤ i) (h1 : i ≤ m) (h2 : m ≤ j) (hj : j < 100) (hn : n < 100) (hx : 0 ≤ x) (h : x < 2 ^ (n * (j - i).toNat)) :
    (Builtin.Int.intBits (x.fdiv (2 ^ ((m - i) * (n : Int)).toNat)) : Int) + (m - i) * (n : Int) ≤ 2 ^ 27 := by
  rw [cut_high h1]
  have hk := bits_of (high_lt h1 h2 hx h).1 (high_lt h1 h2 hx h).2
  have e1 : n * (j - m).toNat ≤ 100 * 100 := Nat.mul_le_mul (by omega) (by omega)
  have e2 : (m - i) * (n : Int) ≤ 100 * 100 := Int.mul_le_mul (by omega) (by omega) (by omega) (by omega)
  omega
end
-- part L3
section
def dlen (a : Int) (n : Nat) : Nat := (Builtin.Int.intBits a + n - 1) / n
theorem dlen_eq {a : Int} {n : Nat} (hn : 0 < n) : ((Builtin.Int.intBits a : Int) + (n : Int) - 1).fdiv (n : Int) = (dlen a n : Int) := by
  rw [Int.fdiv_eq_ediv_of_nonneg _ (by omega)]
  unfold dlen
  rw [show (Builtin.Int.intBits a : Int) + (n : Int) - 1 = ((Builtin.Int.intBits a + n - 1 : Nat) : Int) by omega, Int.natCast_ediv]
theorem lt_bits {a : Int} (h0 : 0 ≤ a) : a < 2 ^ Builtin.Int.intBits a := by
  unfold Builtin.Int.intBits
  split
  · rename_i h; have : a = 0 := by simpa using h
    subst this; decide
  · have h := Nat.lt_log2_self (n := a.natAbs)
    have e : a = (a.natAbs : Int) := by omega
    have : ((a.natAbs : Nat) : Int) < ((2 ^ (a.natAbs.log2 + 1) : Nat) : Int) := by exact_mod_cast h
    rw [Int.natCast_pow] at this
    rw [← e] at this
    exact this
theorem bits_pos {a : Int} (h : 0 < a) : 0 < Builtin.Int.intBits a := by
  unfold Builtin.Int.intBits
  split
  · rename_i q; have : a = 0 := by simpa using q
    omega
  · omega
theorem bits_zero : Builtin.Int.intBits 0 = 0 := rfl
theorem mul_dlen {a : Int} {n : Nat} (hn : 0 < n) : Builtin.Int.intBits a ≤ n * dlen a n := by
  unfold dlen
  have h1 := Nat.div_add_mod (Builtin.Int.intBits a + n - 1) n
  have h2 := Nat.mod_lt (Builtin.Int.intBits a + n - 1) hn
  omega
theorem dlen_lt {a : Int} {n : Nat} (hn : 0 < n) (h0 : 0 ≤ a) : a < 2 ^ (n * dlen a n) := by
  have h1 := lt_bits h0
  have h2 : (2 : Int) ^ Builtin.Int.intBits a ≤ 2 ^ (n * dlen a n) := by
    have := Nat.pow_le_pow_right (n := 2) (by decide) (mul_dlen (a := a) hn)
    exact_mod_cast this
  omega
theorem dlen_le {a : Int} {n : Nat} (hn : 0 < n) : dlen a n ≤ Builtin.Int.intBits a := by
  unfold dlen
  have : (Builtin.Int.intBits a + n - 1) / n < Builtin.Int.intBits a + 1 := by
    rw [Nat.div_lt_iff_lt_mul hn]
    have : Builtin.Int.intBits a ≤ Builtin.Int.intBits a * n := Nat.le_mul_of_pos_right _ hn
    rw [Nat.add_mul]; omega
  omega
theorem dlen_pos {a : Int} {n : Nat} (hn : 0 < n) (h : 0 < a) : 0 < dlen a n := by
  have h1 := mul_dlen (a := a) hn
  have h2 := bits_pos h
  rcases Nat.eq_zero_or_pos (dlen a n) with q | q
  · rw [q] at h1; omega
  · exact q
theorem dlen_zero {n : Nat} (hn : 0 < n) : dlen 0 n = 0 := by have := dlen_le (a := 0) hn; rw [bits_zero] at this; omega
theorem dlen_one {a : Int} : dlen a 1 = Builtin.Int.intBits a := by unfold dlen; simp
/-- the digits that _int2digits gives -/
abbrev digs (n : Nat) (a : Int) : List Int := dg n (dlen a n) a
theorem digs_dv {n : Nat} {a : Int} (hn : 0 < n) (h0 : 0 ≤ a) : dv n (digs n a) = a := dg_dv h0 (dlen_lt hn h0)
theorem upd_all {k : Nat} {d : List Int} (h : d.length = k) : upd (List.replicate k 0) 0 (k : Int) d = d := by
  simp [upd]
section
variable {prog : Program} {w : World} {A : Around} {E : Value → Shared → Prop} {s : Shared} {h₀ : Heap} {L : Addr} {m : Str → Option Value} {news : List (Addr × Obj)} {l : Addr} {x : Int} {t u : Tok} {Q : Value → Shared → Prop}
theorem mulz {k c : Nat} (Fm : Fr h₀ L s.heap m) (N : News h₀ L s.heap news) (hm : (l, listOf [Value.int 0 t].toArray c) ∈ news) (hx : x = (k : Int)) (hk : k ≤ 100)
    (h : ∀ D h' vs, Fr h₀ L h' m → News h₀ L h' ((D, listOf (List.toArray vs) 0) :: news) → (∀ p ∈ news, p.1 < D) → IntsAre vs (List.replicate k 0) → (List.toArray vs).size = k → Q (.ref D) { s with heap := h' }) : wpAny (model prog w) A (binaryOp .Mult (.ref l) (.int x u)) Q E s := by
  subst hx
  refine KM.mul Fm N (News.isList N hm) (ns := [0]) (.cons 0 t .nil) (by omega) (by omega) (by simp; omega) fun D h' F' N' l1 hi _ _ _ _ _ => ?_
  have key : IntsAre (List.replicate (Int.toNat (k : Int)) [Value.int 0 t]).flatten (List.replicate k 0) := ?_
  · exact h D h' _ F' N' l1 key (by rw [List.size_toArray, key.length, List.length_replicate])
  have e : (List.replicate (Int.toNat (k : Int)) ([0] : List Int)).flatten = List.replicate k 0 := by
    simp
  rwa [e] at hi
/-- one entry of a ledger, and the rest -/
inductive Pick (x : Addr × Obj) : List (Addr × Obj) → List (Addr × Obj) → Prop
  | here {r} : Pick x (x :: r) r
  | there {p r r'} : Pick x r r' → Pick x (p :: r) (p :: r')
theorem Pick.mem {x : Addr × Obj} {l r : List (Addr × Obj)} (h : Pick x l r) : ∀ p ∈ x :: r, p ∈ l := by
  induction h with
  | here => intro p hp; exact hp
  | there _ ih =>
    intro p hp
    rcases List.mem_cons.mp hp with e | hp
    · exact .tail _ (ih _ (e ▸ .head _))
    · rcases List.mem_cons.mp hp with e | hp
      · rw [e]; exact .head _
      · exact .tail _ (ih _ (.tail _ hp))
theorem News.pick {hp : Heap} {x : Addr × Obj} {l r : List (Addr × Obj)} (N : News h₀ L hp l) (h : Pick x l r) : News h₀ L hp (x :: r) := fun p q => N p (h.mem p q)
end
end
-- part L4
section
variable {prog : Program} {w : World} {A : Around} {E : Value → Shared → Prop} {Q : Flow → Shared → Prop} {s : Shared} {env : Env} {h₀ : Heap} {x : Str} {body : List Stmt}
def RvEnd {σ : Type} (h₀ : Heap) (L : Addr) (s : Shared) (Led : σ → List (Addr × Obj)) (ps : σ → List (Str × Value)) (x : Str) (stored : List Str) (m₀ : Str → Option Value) (P : List Int → σ → Prop) (pre : List Int) (I : Addr) (it : Obj) (s₂ : Shared) : Prop :=
  ∃ (c' : σ) (h' : Heap) (tk : Nat) (m' : Str → Option Value) (news' : List (Addr × Obj)), s₂ = { s with heap := h', toks := tk } ∧ Fr h₀ L h' m' ∧ News h₀ L h' news' ∧ (∀ p ∈ (I, it) :: Led c', p ∈ news') ∧ (∀ p ∈ Led c', p.1 ≠ I) ∧ (∀ p ∈ ps c', m' p.1 = some p.2) ∧ (∀ z, z ≠ x → (∀ p ∈ ps c', z ≠ p.1) → stored.contains z = false → m' z = m₀ z) ∧ P pre c'
def RvPost {σ : Type} (h₀ : Heap) (L : Addr) (s : Shared) (Led : σ → List (Addr × Obj)) (ps : σ → List (Str × Value)) (x : Str) (stored : List Str) (m₀ : Str → Option Value) (P : List Int → σ → Prop) (Q : Flow → Shared → Prop) (pre : List Int) (I : Addr) (it : Obj) (f : Flow) (s₂ : Shared) : Prop :=
  match f with
  | .ret v => Q (.ret v) s₂
  | .brk => Q .next s₂
  | _ => RvEnd h₀ L s Led ps x stored m₀ P pre I it s₂
theorem rev_rest {σ : Type} {I : Addr} {lp : Addr × Obj} {m₀ : Str → Option Value} (Led : σ → List (Addr × Obj)) (ps : σ → List (Str × Value)) (stored : List Str) (P : List Int → σ → Prop) (all : List Int)
    (hlp : ∀ c, lp ∈ Led c)
    (turn : ∀ (c : σ) (pre post : List Int) (n : Int) (t : Tok) (u : Str → Option Value) (it : Obj) h tk, all = pre ++ n :: post → P pre c → (∀ p ∈ Led c, p.1 ≠ I) → it.cls = .type "list_reverseiterator" →
      Fr h₀ env.locals h (fun y => if y = x then some (.int n t) else kstB (fun z => if stored.contains z then u z else m₀ z) (ps c) y) → News h₀ env.locals h ((I, it) :: Led c) →
      wpAny (model prog w) A (execs body env) (RvPost h₀ env.locals s Led ps x stored m₀ P Q (pre ++ [n]) I it) E { s with heap := h, toks := tk })
    (done : ∀ (c : σ) (u : Str → Option Value) h tk, P all c → Fr h₀ env.locals h (fun y => if y = x then u y else kstB (fun z => if stored.contains z then u z else m₀ z) (ps c) y) → News h₀ env.locals h (Led c) → Q .next { s with heap := h, toks := tk }) :
    ∀ (vr : List Value) (post pre : List Int) (c : σ) (m₁ : Str → Option Value), IntsAre vr post → all = pre ++ post → P pre c → (∀ p ∈ Led c, p.1 ≠ I) → (∀ p ∈ ps c, m₁ p.1 = some p.2) → (∀ z, z ≠ x → (∀ p ∈ ps c, z ≠ p.1) → stored.contains z = false → m₁ z = m₀ z) →
      RevRest prog w A E h₀ env x body Q s I lp vr m₁ (Led c) := by
  intro vr
  induction vr with
  | nil =>
    intro post pre c m₁ hi e hp ho h1 h2
    cases hi
    rw [List.append_nil] at e
    refine RevRest.zero fun h tk F N => ?_
    exact done c m₁ h tk (e ▸ hp) (kst_frOut h1 h2 F) N
  | cons v r ih =>
    intro post pre c m₁ hi e hp ho h1 h2
    cases hi with
    | cons n t hr =>
    refine RevRest.succ fun it h tk hc F N => ?_
    refine wpAny_mono (turn c pre _ n t m₁ it h tk e hp ho hc (kst_fr h1 h2 F) N) (fun f s₂ q => ?_) fun _ _ y => y
    have fin : RvEnd h₀ env.locals s Led ps x stored m₀ P (pre ++ [n]) I it s₂ → UnrEnd h₀ env.locals { s with heap := h, toks := tk } I it (fun m' n' => lp ∈ n' ∧ RevRest prog w A E h₀ env x body Q s I lp r m' n') s₂ := by
      rintro ⟨c', h', tk', m', news', e', F', N', hn, ho', k1, k2, hp'⟩
      exact ⟨h', tk', m', Led c', e', F', fun p hp => N' p (hn p hp), ho', hlp c', ih _ (pre ++ [n]) c' m' hr (by rw [e, List.append_assoc]; rfl) hp' ho' k1 k2⟩
    cases f with
    | ret v => exact q
    | brk => exact q
    | next => exact fin q
    | cont => exact fin q
theorem ints_rev {vs : List Value} {ns : List Int} (h : IntsAre vs ns) : IntsAre vs.reverse ns.reverse := by
  induction h with
  | nil => exact .nil
  | cons i t _ ih => rw [List.reverse_cons, List.reverse_cons]; exact IntsAre.append ih (.cons i t .nil)
theorem rev_inv {σ : Type} {I ax : Addr} {vs : List Value} {ns : List Int} {k : Nat} {m₀ : Str → Option Value} (Led : σ → List (Addr × Obj)) (ps : σ → List (Str × Value)) (stored : List Str) (P : List Int → σ → Prop) (c₀ : σ)
    (hh : A.handled = none) (F : Fr h₀ env.locals s.heap m₀) (N : News h₀ env.locals s.heap ((I, revObj ax ((vs.length : Int) - 1)) :: Led c₀)) (ho : ∀ p ∈ Led c₀, p.1 ≠ I) (hlp : ∀ c, (ax, listOf vs.toArray k) ∈ Led c) (hi : IntsAre vs ns)
    (hk : ∀ p ∈ ps c₀, m₀ p.1 = some p.2) (hp : P [] c₀)
    (turn : ∀ (c : σ) (pre post : List Int) (n : Int) (t : Tok) (u : Str → Option Value) (it : Obj) h tk, ns.reverse = pre ++ n :: post → P pre c → (∀ p ∈ Led c, p.1 ≠ I) → it.cls = .type "list_reverseiterator" →
      Fr h₀ env.locals h (fun y => if y = x then some (.int n t) else kstB (fun z => if stored.contains z then u z else m₀ z) (ps c) y) → News h₀ env.locals h ((I, it) :: Led c) →
      wpAny (model prog w) A (execs body env) (RvPost h₀ env.locals s Led ps x stored m₀ P Q (pre ++ [n]) I it) E { s with heap := h, toks := tk })
    (done : ∀ (c : σ) (u : Str → Option Value) h tk, P ns.reverse c → Fr h₀ env.locals h (fun y => if y = x then u y else kstB (fun z => if stored.contains z then u z else m₀ z) (ps c) y) → News h₀ env.locals h (Led c) → Q .next { s with heap := h, toks := tk }) :
    wpAny (model prog w) A (pyIter (.ref I)) (fun it s₂ => LoopAtV prog w A h₀ env x body Q E it s₂) E s := by
  have off : ∀ l : List (Addr × Obj), (∀ p ∈ l, p.1 ≠ I) → OffI I (revObj ax ((vs.length : Int) - 1)) l := by
    intro l
    induction l with
    | nil => intro _; trivial
    | cons p r ih => intro h; exact ⟨.inl (h p (.head _)), ih fun q hq => h q (.tail _ hq)⟩
  exact iter_revUnr (vs := vs) (n := k) hh F N (off _ ho) (hlp c₀) rfl rfl (rev_rest Led ps stored P ns.reverse hlp turn done vs.reverse ns.reverse [] c₀ m₀ (ints_rev hi) rfl hp ho hk fun _ _ _ _ => rfl)
end
abbrev tp (vs : List Value) : Obj := { cls := .type "tuple", data := .seq vs.toArray }
section
variable {prog : Program} {w : World} {A : Around} {E : Value → Shared → Prop} {s : Shared} {h₀ : Heap} {L : Addr} {m : Str → Option Value} {news : List (Addr × Obj)} {a b : Int} {t u : Tok}
theorem divmod_K {Q : Value → Shared → Prop} (F : Fr h₀ L s.heap m) (N : News h₀ L s.heap news) (hb : 0 < b) (hb2 : b < 1073741824)
    (h : ∀ D h' t1 t2 tk, Fr h₀ L h' m → News h₀ L h' ((D, tp [.int (a.fdiv b) t1, .int (a.fmod b) t2]) :: news) → (∀ p ∈ news, p.1 < D) → Q (.ref D) { s with heap := h', toks := tk }) :
    wpAny (model prog w) A (call (.builtin "divmod") [.int a t, .int b u]) Q E s :=
  divmod_N F N (by omega) (fun h' F' N' => h _ h' _ _ _ F' N' fun p hp => Heap.lt_size (N p hp).1) (.inl (PyProof.noPylong_small (by omega)))
end
section
variable {prog : Program} {w : World} {A : Around} {E : Value → Shared → Prop} {s : Shared} {h₀ : Heap} {L : Addr} {m : Str → Option Value} {news : List (Addr × Obj)}
theorem newTupleK {vs : List Value} {Q : Value → Shared → Prop} (F : Fr h₀ L s.heap m) (N : News h₀ L s.heap news)
    (h : ∀ D h', Fr h₀ L h' m → News h₀ L h' ((D, tp vs) :: news) → (∀ p ∈ news, p.1 < D) → Q (.ref D) { s with heap := h' }) (hsz : vs.length ≤ sizeLine := by size_fits) :
    wpAny (model prog w) A (newTuple vs) Q E s := newTuple_N F N (fun h' F' N' => h _ h' F' N' fun p hp => Heap.lt_size (N p hp).1) hsz
end
/-- a new tuple, behind all that the ledger holds -/
local macro_rules | `(tactic| walk_at "newTuple") => `(tactic| (k_here; k_dflt (refine' newTupleK ?k1 ?k2 ?_ ?z; (case k1 => k_asm); (case k2 => k_asm); (case z => size_fits); k_whole); intro D' h' F' N' l1; (try k_lt l1); (try k_sweep)))
abbrev eD : Obj := { cls := .type "dict", data := .dict #[] }
section
variable {prog : Program} {w : World} {A : Around} {E : Value → Shared → Prop} {s : Shared} {h₀ : Heap} {L : Addr} {m : Str → Option Value} {news : List (Addr × Obj)}
theorem eD_str (h : Heap) : eD.IsDictOf (strKind prog w) [] := by
  obtain ⟨o, ho, hd⟩ := Heap.dictOf_iff.mp (Heap.DictOf.new (knd := strKind prog w) h)
  rw [Heap.get?_push_size _ rfl] at ho
  have e := Option.some.inj ho
  subst e
  exact hd
theorem eD_int (h : Heap) : eD.IsDictOf (intKind prog w) [] := by
  obtain ⟨o, ho, hd⟩ := Heap.dictOf_iff.mp (Heap.DictOf.new (knd := intKind prog w) h)
  rw [Heap.get?_push_size _ rfl] at ho
  have e := Option.some.inj ho
  subst e
  exact hd
theorem newDictE {env : Env} {pos : Pos} {Q : Value → Shared → Prop} (F : Fr h₀ L s.heap m) (N : News h₀ L s.heap news) (hbig : h₀.NoLimit)
    (k : ∀ d h', Fr h₀ L h' m → News h₀ L h' ((d, eD) :: news) → (∀ p ∈ news, p.1 < d) → (d == sysModules) = false → Q (.ref d) { s with heap := h' }) : wpAny (model prog w) A (eval (.Dict [] [] pos) env) Q E s :=
  wpAny_Dict_empty (k _ _ (F.push _) (News.push F N _) (fun p hp => Heap.lt_size (N p hp).1) (F.notModules (modules_low hbig)))
end
theorem noF_cons {p : Addr × Obj} {l : List (Addr × Obj)} (h : noF p.2 = true) (r : (l.all fun q => noF q.2) = true) : ((p :: l).all fun q => noF q.2) = true := by
  rw [List.all_cons, h, r]; rfl
theorem ctr_finx {h₀ g h h' : Heap} {L L' : Addr} {m m' : Str → Option Value} {own news' : List (Addr × Obj)} {x : TS} (ex new : List (Addr × Obj)) (y : TS) (F : Fr h₀ L h m) (N : News h₀ L h (own ++ x.led)) (ok : x.Ok) (hn : ∀ q ∈ own, q.1 ∉ [30, 37, x.c1, x.c2])
    (hex : ∀ p ∈ ex, p ∈ own) (KG : Kp ([30, 37, x.c1, x.c2] ++ ex.map (·.1)) h g) (SG : h₀.StaysIn g) (F' : Fr g L' h' m') (N' : News g L' h' news') (hs : ∀ p ∈ new ++ ([(30, tabObj y.ps), (37, tabObj y.qs), (y.c1, y.o1), (y.c2, y.o2)] ++ ex), p ∈ news') (hsep : ∀ p ∈ new, ∀ e ∈ ex, e.1 ≠ p.1) (hexn : (ex.all fun q => noF q.2) = true)
    (hnn : (new.all fun q => noF q.2) = true) (oky : y.Ok) :
    Fr h₀ L h' m ∧ News h₀ L h' (new ++ (own ++ y.led)) ∧ Apart new own y := by
  have NO : News h₀ L h own := fun p hp => N p (List.mem_append_left _ hp)
  have NT : News h₀ L h x.led := fun p hp => N p (List.mem_append_right _ hp)
  obtain ⟨oL, es, ep, hL, hLd, hLk, hLf⟩ := F.ns
  have nL : L ∉ [30, 37, x.c1, x.c2] ++ ex.map (·.1) := fun q => by
    rcases List.mem_append.mp q with q | q
    · obtain ⟨p, hp, e⟩ := List.mem_map.mp (show L ∈ x.led.map (·.1) from q)
      exact (NT p hp).2.1 e
    · obtain ⟨p, hp, e⟩ := List.mem_map.mp q
      exact (NO p (hex p hp)).2.1 e
  have gL := KG L oL nL hL
  have offT : ∀ q ∈ own, q.1 ∉ [30, 37, x.c1, x.c2] := hn
  have ownAt : ∀ q ∈ own, q ∈ ex ∨ g.get? q.1 = some q.2 := fun q hq => by
    by_cases he : q.1 ∈ ex.map (·.1)
    · obtain ⟨p, hp, e⟩ := List.mem_map.mp he
      have h1 := (NO p (hex p hp)).1
      have h2 := (NO q hq).1
      rw [show p.1 = q.1 from e, h2] at h1
      exact .inl ((Prod.ext e.symm (Option.some.inj h1) : q = p) ▸ hp)
    · exact .inr (KG _ _ (fun hm => (List.mem_append.mp hm).elim (offT q hq) he) (NO q hq).1)
  have FF : Fr h₀ L h' m := ⟨⟨oL, es, ep, F'.keep _ _ gL, hLd, hLk, hLf⟩, fun b o e => F'.keep b o (SG b o e), F.above⟩
  have nw : ∀ p ∈ news', h'.get? p.1 = some p.2 ∧ p.1 ≠ L ∧ h₀.get? p.1 = none := fun p hp => by
    have h1 := N' p hp
    refine ⟨h1.1, fun q => ?_, ?_⟩
    · have h2 := h1.2.2; rw [q, gL] at h2; cases h2
    · cases q : h₀.get? p.1 with
      | none => rfl
      | some o => have h2 := h1.2.2; rw [SG _ _ q] at h2; cases h2
  have NN : News h₀ L h' (new ++ (own ++ y.led)) := fun p hp => by
    rcases List.mem_append.mp hp with hp | hp
    · exact nw p (hs p (List.mem_append_left _ hp))
    · rcases List.mem_append.mp hp with hp | hp
      · rcases ownAt p hp with he | he
        · exact nw p (hs p (List.mem_append_right _ (List.mem_append_right _ he)))
        · exact ⟨F'.keep _ _ he, (NO p hp).2⟩
      · exact nw p (hs p (List.mem_append_right _ (List.mem_append_left _ hp)))
  have NB : News h₀ L h' (new ++ ex) := fun p hp => by
    rcases List.mem_append.mp hp with hp | hp
    · exact NN p (List.mem_append_left _ hp)
    · exact NN p (List.mem_append_right _ (List.mem_append_left _ (hex p hp)))
  have hnb : ((new ++ ex).all fun q => noF q.2) = true := by rw [List.all_append, hnn, hexn]; rfl
  have at' : ∀ p ∈ y.led, h'.get? p.1 = some p.2 := fun p hp => (NN p (List.mem_append_right _ (List.mem_append_right _ hp))).1
  have both : ∀ e ∈ y.led, noF e.2 = false → AllNe e.1 (new ++ own) := fun e he hk => allNe_of fun p hp => by
    rcases List.mem_append.mp hp with hp | hp
    · exact kinds_apart NB hnb (at' e he) hk p (List.mem_append_left _ hp)
    · rcases ownAt p hp with hx | hx
      · exact kinds_apart NB hnb (at' e he) hk p (List.mem_append_right _ hx)
      · intro ee
        have h1 := (N' e (hs e (List.mem_append_right _ (List.mem_append_left _ he)))).2.2
        rw [← ee, hx] at h1
        cases h1
  refine ⟨FF, NN, allSep_of fun p hp q hq e => ?_, both _ (.head _) rfl, both _ (.tail _ (.head _)) rfl, both _ (.tail _ (.tail _ (.head _))) oky.i.noF, both _ (.tail _ (.tail _ (.tail _ (.head _)))) oky.d.noF⟩
  rcases ownAt q hq with he | he
  · exact hsep p hp q he e
  · have h1 := (N' p (hs p (List.mem_append_left _ hp))).2.2
    rw [← e, he] at h1
    cases h1
section
variable {prog : Program} {w : World} {A : Around} {E : Value → Shared → Prop} {Q : Flow → Shared → Prop} {s : Shared} {env : Env} {h₀ : Heap} {x : Str} {body : List Stmt}
def KrEnd {σ : Type} (h₀ : Heap) (L : Addr) (s : Shared) (Led : σ → List (Addr × Obj)) (x : Str) (stored : List Str) (m₀ : Str → Option Value) (P : σ → Prop) (I : Addr) (it : Obj) (s₂ : Shared) : Prop :=
  ∃ (c' : σ) (h' : Heap) (tk : Nat) (m' : Str → Option Value) (news' : List (Addr × Obj)), s₂ = { s with heap := h', toks := tk } ∧ Fr h₀ L h' m' ∧ News h₀ L h' news' ∧ (∀ p ∈ (I, it) :: Led c', p ∈ news') ∧ (∀ p ∈ Led c', p.1 ≠ I) ∧ (∀ z, z ≠ x → stored.contains z = false → m' z = m₀ z) ∧ P c'
def KrPost {σ : Type} (h₀ : Heap) (L : Addr) (s : Shared) (Led : σ → List (Addr × Obj)) (x : Str) (stored : List Str) (m₀ : Str → Option Value) (P : σ → Prop) (Q : Flow → Shared → Prop) (I : Addr) (it : Obj) (f : Flow) (s₂ : Shared) : Prop :=
  match f with
  | .ret v => Q (.ret v) s₂
  | .brk => Q .next s₂
  | _ => KrEnd h₀ L s Led x stored m₀ P I it s₂
theorem krs_rest {σ : Type} {I : Addr} {a c : Int} {n : Nat} {m₀ : Str → Option Value} (Led : σ → List (Addr × Obj)) (stored : List Str) (P : σ → Prop)
    (turn : ∀ (d : σ) (i : Nat) (t : Tok) (u : Str → Option Value) h tk, i < n → P d → (∀ p ∈ Led d, p.1 ≠ I) →
      Fr h₀ env.locals h (fun y => if y = x then some (.int (a + (i : Int) * c) t) else if stored.contains y then u y else m₀ y) → News h₀ env.locals h ((I, krsIt (a + ((i + 1 : Nat) : Int) * c) ((n : Int) - ((i + 1 : Nat) : Int)) c) :: Led d) →
      wpAny (model prog w) A (execs body env) (KrPost h₀ env.locals s Led x stored m₀ P Q I (krsIt (a + ((i + 1 : Nat) : Int) * c) ((n : Int) - ((i + 1 : Nat) : Int)) c)) E { s with heap := h, toks := tk })
    (done : ∀ (d : σ) (u : Str → Option Value) h tk, P d → Fr h₀ env.locals h (fun y => if y = x then u y else if stored.contains y then u y else m₀ y) → News h₀ env.locals h (Led d) → Q .next { s with heap := h, toks := tk }) :
    ∀ (k i : Nat) (d : σ) (m₁ : Str → Option Value), i + k = n → P d → (∀ p ∈ Led d, p.1 ≠ I) → (∀ z, z ≠ x → stored.contains z = false → m₁ z = m₀ z) →
      KrsRest prog w A E h₀ env x body Q s I a c n k i m₁ (Led d) := by
  intro k
  induction k with
  | zero =>
    intro i d m₁ e hp ho h2
    refine KrsRest.zero fun h tk F N => done d m₁ h tk hp ?_ N
    have em : (fun y => if y = x then m₁ y else if stored.contains y then m₁ y else m₀ y) = m₁ := by
      funext y
      by_cases hy : y = x
      · rw [if_pos hy]
      · rw [if_neg hy]
        cases h3 : stored.contains y with
        | true => simp
        | false => simp only [Bool.false_eq_true, if_false]; exact (h2 y hy h3).symm
    rw [em]; exact F
  | succ k ih =>
    intro i d m₁ e hp ho h2
    refine KrsRest.succ rfl fun t h tk F N => ?_
    have em : (fun y => if y = x then some (Value.int (a + (i : Int) * c) t) else m₁ y) = (fun y => if y = x then some (Value.int (a + (i : Int) * c) t) else if stored.contains y then m₁ y else m₀ y) := by
      funext y
      by_cases hy : y = x
      · rw [if_pos hy, if_pos hy]
      · rw [if_neg hy, if_neg hy]
        cases h3 : stored.contains y with
        | true => simp
        | false => simp only [Bool.false_eq_true, if_false]; exact h2 y hy h3
    rw [em] at F
    refine wpAny_mono (turn d i t m₁ h tk (by omega) hp ho F N) (fun f s₂ q => ?_) fun _ _ y => y
    have fin : KrEnd h₀ env.locals s Led x stored m₀ P I (krsIt (a + ((i + 1 : Nat) : Int) * c) ((n : Int) - ((i + 1 : Nat) : Int)) c) s₂ →
        UnrEnd h₀ env.locals { s with heap := h, toks := tk } I (krsIt (a + ((i + 1 : Nat) : Int) * c) ((n : Int) - ((i + 1 : Nat) : Int)) c) (KrsRest prog w A E h₀ env x body Q s I a c n k (i + 1)) s₂ := by
      rintro ⟨d', h', tk', m', news', e', F', N', hn, ho', k2, hp'⟩
      exact ⟨h', tk', m', Led d', e', F', fun p hp => N' p (hn p hp), ho', ih (i + 1) d' m' (by omega) hp' ho' k2⟩
    cases f with
    | ret v => exact q
    | brk => exact q
    | next => exact fin q
    | cont => exact fin q
theorem krs_inv {σ : Type} {r : Addr} {a b c : Int} {t₀ u₀ v₀ : Tok} {n : Nat} {m₀ : Str → Option Value} (Led : σ → List (Addr × Obj)) (stored : List Str) (P : σ → Prop) (d₀ : σ)
    (hh : A.handled = none) (hr : IsRange s.heap r a b c t₀ u₀ v₀) (hsmall : Builtin.Range.small a b c = true) (hn : Builtin.Range.rangeSize a b c = (n : Int)) (F : Fr h₀ env.locals s.heap m₀) (N : News h₀ env.locals s.heap (Led d₀)) (hp : P d₀)
    (turn : ∀ (I : Addr) (d : σ) (i : Nat) (t : Tok) (u : Str → Option Value) h tk, i < n → P d → (∀ p ∈ Led d, p.1 ≠ I) →
      Fr h₀ env.locals h (fun y => if y = x then some (.int (a + (i : Int) * c) t) else if stored.contains y then u y else m₀ y) → News h₀ env.locals h ((I, krsIt (a + ((i + 1 : Nat) : Int) * c) ((n : Int) - ((i + 1 : Nat) : Int)) c) :: Led d) →
      wpAny (model prog w) A (execs body env) (KrPost h₀ env.locals s Led x stored m₀ P Q I (krsIt (a + ((i + 1 : Nat) : Int) * c) ((n : Int) - ((i + 1 : Nat) : Int)) c)) E { s with heap := h, toks := tk })
    (done : ∀ (d : σ) (u : Str → Option Value) h tk, P d → Fr h₀ env.locals h (fun y => if y = x then u y else if stored.contains y then u y else m₀ y) → News h₀ env.locals h (Led d) → Q .next { s with heap := h, toks := tk }) :
    wpAny (model prog w) A (pyIter (.ref r)) (fun it s₂ => LoopAtV prog w A h₀ env x body Q E it s₂) E s :=
  krs_iter hh hr hsmall hn F N fun I hI => krs_rest Led stored P (turn I) done n 0 d₀ m₀ (by omega) hp (fun p hp => Nat.ne_of_lt (hI p hp)) fun _ _ _ => rfl
end
-- part L5
section
structure DP (n : Nat) (b : Int) (pre qs : List Int) (r : Int) : Prop where
  r0 : 0 ≤ r
  rb : r < b
  len : qs.length = pre.length
  val : dv n qs.reverse * b + r = dv n pre.reverse
  bnd : ∀ q ∈ qs, 0 ≤ q ∧ q < 2 ^ n
theorem DP.nil {n : Nat} {b : Int} (hb : 0 < b) : DP n b [] [] 0 := ⟨by omega, hb, rfl, by simp [dv], fun _ h => nomatch h⟩
theorem DP.x0 {n : Nat} {b r d : Int} {pre qs : List Int} (h : DP n b pre qs r) (d0 : 0 ≤ d) : 0 ≤ r * 2 ^ n + d := by
  have := Int.mul_nonneg h.r0 (Int.le_of_lt (two_pos n)); omega
theorem DP.xb {n : Nat} {b r d : Int} {pre qs : List Int} (h : DP n b pre qs r) (d1 : d < 2 ^ n) : r * 2 ^ n + d < b * 2 ^ n := by
  have h1 : r * 2 ^ n ≤ (b - 1) * 2 ^ n := Int.mul_le_mul_of_nonneg_right (by have := h.rb; omega) (Int.le_of_lt (two_pos n))
  rw [Int.sub_mul] at h1; omega
theorem DP.step {n : Nat} {b r d : Int} {pre qs : List Int} (h : DP n b pre qs r) (d0 : 0 ≤ d) (d1 : d < 2 ^ n) (hb : 0 < b) :
    DP n b (pre ++ [d]) (qs ++ [(r * 2 ^ n + d).fdiv b]) ((r * 2 ^ n + d).fmod b) := by
  have x0 := h.x0 d0
  have xb := h.xb d1
  rw [Int.fdiv_eq_ediv_of_nonneg _ (Int.le_of_lt hb), Int.fmod_eq_emod_of_nonneg _ (Int.le_of_lt hb)]
  have hq0 : 0 ≤ (r * 2 ^ n + d) / b := Int.ediv_nonneg x0 (Int.le_of_lt hb)
  have hq1 : (r * 2 ^ n + d) / b < 2 ^ n := Int.ediv_lt_of_lt_mul hb (by have e := Int.mul_comm b (2 ^ n); omega)
  refine ⟨Int.emod_nonneg _ (by omega), Int.emod_lt_of_pos _ hb, by simp [h.len], ?_, ?_⟩
  · rw [List.reverse_append, List.reverse_append]
    show dv n ((r * 2 ^ n + d) / b :: qs.reverse) * b + _ = dv n (d :: pre.reverse)
    simp only [dv]
    rw [← h.val]
    have e := Int.mul_ediv_add_emod (r * 2 ^ n + d) b
    have e2 : b * ((r * 2 ^ n + d) / b) = (r * 2 ^ n + d) / b * b := Int.mul_comm ..
    rw [Int.add_mul, Int.mul_add, Int.mul_assoc]
    have e3 : (2 : Int) ^ n * r = r * 2 ^ n := Int.mul_comm ..
    omega
  · intro q hq
    rcases List.mem_append.mp hq with hq | hq
    · exact h.bnd q hq
    · rw [List.mem_singleton.mp hq]; exact ⟨hq0, hq1⟩
theorem DP.fin {n : Nat} {a b r : Int} {ds qs : List Int} (h : DP n b ds.reverse qs r) (e : dv n ds = a) (hb : 0 < b) : dv n qs.reverse = a / b ∧ r = a % b := by
  have hv := h.val
  rw [List.reverse_reverse, e] at hv
  have h0 := h.r0
  have h1 := h.rb
  constructor
  · rw [← hv, Int.mul_comm, Int.add_comm, Int.add_mul_ediv_left _ _ (by omega), Int.ediv_eq_zero_of_lt h0 h1]; omega
  · rw [← hv, Int.mul_comm, Int.add_comm, Int.add_mul_emod_self_left, Int.emod_eq_of_lt h0 h1]
theorem DP.room {n : Nat} {b r d : Int} {pre qs : List Int} (h : DP n b pre qs r) (hb : b < 2 ^ n) : (Builtin.Int.intBits r : Int) + (n : Int) ≤ n + n := by
  have := bits_of (k := n) h.r0 (by have := h.rb; omega)
  omega
theorem DP.bits {n : Nat} {b r d : Int} {pre qs : List Int} (h : DP n b pre qs r) (hb : b < 2 ^ n) (d0 : 0 ≤ d) (d1 : d < 2 ^ n) : (Builtin.Int.intBits (r * 2 ^ n + d) : Int) ≤ n + n := by
  have x0 := h.x0 d0
  have xb := h.xb d1
  have : b * 2 ^ n ≤ 2 ^ (n + n) := by
    rw [Int.pow_add]; exact Int.mul_le_mul_of_nonneg_right (by omega) (Int.le_of_lt (two_pos n))
  have := bits_of (k := n + n) x0 (by omega)
  omega
end
-- part L6
section
theorem dg_snoc {n : Nat} : ∀ {k : Nat} {x : Int}, dg n (k + 1) x = dg n k x ++ [x / 2 ^ (n * k) % 2 ^ n]
  | 0, x => by simp [dg]
  | k + 1, x => by
    rw [dg, dg_snoc (k := k) (x := x / 2 ^ n)]
    have e : x / 2 ^ n / 2 ^ (n * k) = x / 2 ^ (n * (k + 1)) := by
      rw [Int.ediv_ediv_of_nonneg (Int.le_of_lt (two_pos n)), ← Int.pow_add, show n + n * k = n * (k + 1) by rw [Nat.mul_add]; omega]
    rw [e]
    rfl
theorem bits_le {b : Int} {k : Nat} (h : b / 2 ^ k = 0) (h0 : 0 ≤ b) : Builtin.Int.intBits b ≤ k := by
  refine bits_of h0 ?_
  have := Int.lt_mul_ediv_self_add (x := b) (two_pos k)
  rw [h] at this
  omega
theorem lt_bits_of {b : Int} {k : Nat} (h : 0 < b / 2 ^ k) (h0 : 0 ≤ b) : k < Builtin.Int.intBits b := by
  rcases Nat.lt_or_ge k (Builtin.Int.intBits b) with q | q
  · exact q
  · have h1 := lt_bits h0
    have h2 : (2 : Int) ^ Builtin.Int.intBits b ≤ 2 ^ k := by
      have := Nat.pow_le_pow_right (n := 2) (by decide) q
      exact_mod_cast this
    rw [Int.ediv_eq_zero_of_lt h0 (by omega)] at h
    omega
structure DI (a b one other cc nc : Int) (ns : List Int) : Prop where
  o0 : 0 ≤ other
  ho : other = b / 2 ^ ns.length
  h1 : one = a * 2 ^ ns.length
  hc : cc + one * other = a * b
  hn : nc = ns.sum
  hs : ns = dg 1 ns.length b
  le : ns.length ≤ Builtin.Int.intBits b
theorem DI.nil {a b : Int} (h : 0 ≤ b) : DI a b a b 0 0 [] := ⟨h, by simp, by simp, by simp, rfl, rfl, Nat.zero_le _⟩
theorem DI.len {a b one other cc nc : Int} {ns : List Int} (h : DI a b one other cc nc ns) (hb : 0 ≤ b) (hb2 : b < 2 ^ 30) : ns.length ≤ 30 := by
  have := bits_of (k := 30) hb hb2
  have := h.le
  omega
theorem DI.step {a b one other cc nc cc' nc' : Int} {ns : List Int} (h : DI a b one other cc nc ns) (hb : 0 ≤ b) (hp : 0 < other) (e1 : cc' = cc + one * (other % 2)) (e2 : nc' = nc + other % 2) :
    DI a b (one + one) (other / 2) cc' nc' (ns ++ [other % 2]) := by
  have hl : (ns ++ [other % 2]).length = ns.length + 1 := by simp
  have hd : b / 2 ^ ns.length / 2 = b / 2 ^ (ns.length + 1) := by
    rw [Int.ediv_ediv_of_nonneg (Int.le_of_lt (two_pos _)), Int.pow_succ]
  refine ⟨by omega, ?_, ?_, ?_, ?_, ?_, ?_⟩
  · rw [hl, h.ho, hd]
  · rw [hl, h.h1, Int.pow_succ, ← Int.mul_assoc]; omega
  · rw [e1, ← h.hc]
    have e := Int.mul_ediv_add_emod other 2
    have : one * other = one * (2 * (other / 2)) + one * (other % 2) := by rw [← Int.mul_add, e]
    rw [this, Int.add_mul]
    have e3 : one * (2 * (other / 2)) = 2 * (one * (other / 2)) := by rw [Int.mul_left_comm]
    omega
  · rw [e2, h.hn]; simp
  · rw [hl, dg_snoc, ← h.hs, Nat.one_mul, ← h.ho]; rfl
  · rw [hl]; have := lt_bits_of (h.ho ▸ hp) hb; omega
theorem DI.fin {a b one other cc nc : Int} {ns : List Int} (h : DI a b one other cc nc ns) (hb : 0 ≤ b) (hz : other = 0) : cc = a * b ∧ ns = digs 1 b ∧ nc = (digs 1 b).sum := by
  have h1 := bits_le (h.ho ▸ hz) hb
  have h2 := h.le
  have e : ns.length = dlen b 1 := by rw [dlen_one]; omega
  have e2 : ns = digs 1 b := by have := h.hs; rw [e] at this; exact this
  have hc := h.hc
  rw [hz] at hc
  exact ⟨by omega, e2, by rw [h.hn, ← e2]⟩
end
-- part L7
section
section
variable {prog : Program} {w : World} {A : Around} {E : Value → Shared → Prop} {s : Shared}
theorem sliceApplied_two {sl : Addr} {u : Tok} {Q : Int × Int × Nat → Shared → Prop} (hs : s.heap.IsSliceOf sl .none (.int 2 u) .none) (h : Q ((0 : Int), 1, 2) s) :
    wpAny (model prog w) A (Builtin.Slice.sliceApplied (.ref sl) (pure ((5 : Nat) : Int))) Q E s := by
  obtain ⟨os, hos, hcs, hds⟩ := id hs
  unfold Builtin.Slice.sliceApplied Builtin.Slice.sliceFields
  refine wpAny_bind (wpAny_bind (wpAny_field hos hds (x := .none) rfl (wpAny_bind (wpAny_field hos hds (x := .int 2 u) rfl (wpAny_bind (wpAny_field hos hds (x := .none) rfl (wpAny_pure ?_)))))))
  refine wpAny_bind (slicePart_none ?_)
  show wpAny _ _ (if ((1 : Int) == 0) = true then _ else _) _ _ s
  rw [if_neg (by decide)]
  refine wpAny_bind (slicePart_none (wpAny_bind (slicePart_int (wpAny_bind (wpAny_pure ?_)))))
  show wpAny _ _ (match Builtin.Slice.sliceAdjust none (some (2 : Int)) 1 ((5 : Nat) : Int) with | (lo, hi) => pure (lo, (1 : Int), Builtin.Slice.slicePlaces lo hi 1)) _ _ s
  exact wpAny_pure h
theorem getItem_two {t sl : Addr} {v1 v2 v3 v4 v5 : Value} {u : Tok} {Q : Value → Shared → Prop} (ht : IsTup s.heap t [v1, v2, v3, v4, v5].toArray) (hs : s.heap.IsSliceOf sl .none (.int 2 u) .none)
    (h : Q (.ref s.heap.objs.size) { s with heap := s.heap.push (tp [v1, v2]) }) : wpAny (model prog w) A (getItem (.ref t) (.ref sl)) Q E s := by
  obtain ⟨os, hos, hcs, hds⟩ := id hs
  have hTs : s.TypeIs (.ref sl) "slice" := ⟨os, hos, hcs⟩
  unfold getItem
  try with_reducible refine wpAny_holding ?_
  first | refine wpAny_bind (wpAny_pure ?_) | skip
  refine wpAny_bind (wpAny_sequenceKey ht.typeIs (by decide) ?_)
  refine wpAny_bind (wpAny_callSpecial?_slot (name := Str.ofString "__getitem__") ht.typeIs slot_tuple_getitem
    (wpAny_call_entry slot_tuple_getitem ht.typeIs entry_tuple_getitem ?_ (args_tuple_getitem _ _)))
  show wpAny _ _ (Builtin.Tuple.tupleItemsOf (.ref t) >>= _) _ _ s
  refine wpAny_bind (tupleItemsOf_ ht ?_)
  refine wpAny_bind (wpAny_typeOf hTs ?_)
  rw [if_pos (by decide)]
  refine wpAny_bind (sliceApplied_two hs ?_)
  show wpAny _ _ (if ((0 : Int) == 0 && (1 : Int) == 1 && (2 : Nat) == 5) = true then _ else _) _ _ s
  rw [if_neg (by decide)]
  have hdrop : sizeOk (.seq [v1, v2].toArray) := by
    show 2 ≤ sizeLine
    decide
  first
    | exact wpAny_bind (m := Builtin.Tuple.tupleExact _) (wpAny_newObj_type (wpAny_pure ⟨_, rfl, wpAny_pure h⟩) hdrop)
    | exact wpAny_bind (m := Builtin.Tuple.tupleExact _) (wpAny_newObj_type (wpAny_bind (wpAny_pure (wpAny_pure ⟨_, rfl, wpAny_pure h⟩))) hdrop)
    | exact wpAny_bind (wpAny_bind (m := Builtin.Tuple.tupleExact _) (wpAny_newObj_type (wpAny_pure (wpAny_pure ⟨_, rfl, wpAny_pure h⟩)) hdrop))
    | exact wpAny_bind (wpAny_bind (m := Builtin.Tuple.tupleExact _) (wpAny_newObj_type (wpAny_pure ⟨_, rfl, wpAny_pure h⟩) hdrop))
end
section
variable {prog : Program} {w : World} {A : Around} {E : Value → Shared → Prop} {s : Shared} {h₀ : Heap} {L : Addr} {m : Str → Option Value} {news : List (Addr × Obj)}
theorem slice_two {value slice : Expr} {t : Addr} {v1 v2 v3 v4 v5 : Value} {u : Tok} {Q : Value → Shared → Prop}
    (F : Fr h₀ L s.heap m) (N : News h₀ L s.heap news) (ht : (t, tp [v1, v2, v3, v4, v5]) ∈ news)
    (h : ∀ D h', Fr h₀ L h' m → News h₀ L h' ((D, tp [v1, v2]) :: news) → (∀ p ∈ news, p.1 < D) → Q (.ref D) { s with heap := h' })
    (hs : subscripted slice false (.ref t) (.ref s.heap.objs.size) = operate [.ref s.heap.objs.size, .ref t] (getItem (.ref t) (.ref s.heap.objs.size)) := by with_unfolding_all rfl)
    (hg : ∀ r, letTemporaryGo value (.ref t) r = pure () := by intro _; with_unfolding_all rfl) :
    wpAny (model prog w) A (subscriptTail value slice (.ref t) (.ref s.heap.objs.size)) Q E { s with heap := s.heap.push { cls := .type "slice", data := .fields #[.none, .int 2 u, .none] } } := by
  have ht0 : IsTup s.heap t [v1, v2, v3, v4, v5].toArray := News.isTup N ht
  have ht' : IsTup (s.heap.push { cls := .type "slice", data := .fields #[.none, .int 2 u, .none] }) t [v1, v2, v3, v4, v5].toArray := ht0.keeps fun _ _ e => Heap.get?_push_of_some _ e
  refine subscriptTail_ops (s := { s with heap := s.heap.push { cls := .type "slice", data := .fields #[.none, .int 2 u, .none] } }) ht'.typeIs slot_tuple_getitem.lookup
    (getItem_two ht' (Heap.IsSliceOf.new ..) ?_) hs hg
  have N1 := News.push (F.push { cls := .type "slice", data := .fields #[.none, .int 2 u, .none] }) (N.grown fun _ _ e => Heap.get?_push_of_some _ e) (tp [v1, v2])
  rw [Heap.size_push] at N1
  show Q (.ref (s.heap.push _).objs.size) _
  rw [Heap.size_push]
  exact h _ _ ((F.push _).push _) N1 fun p hp => Nat.lt_succ_of_lt (Heap.lt_size (N p hp).1)
end
end
-- part D2
section
def D2IClaim (prog : Program) (w : World) (p : Program) (loose : List Str) (mean : ExcName → Option Value) (mg mb : Str → Option Value) (base : Heap) (f c' : Addr) (qual : Str) (l : Addr) (vs : List Value) (news : List (Addr × Obj)) (n : Nat) (ns : List Int) (N : Nat) : Prop :=
  ∀ (i j : Int) (ti tj : Tok) (dp un : Nat) (gd : Option (List Code)) (cn : Str) (cs : Scope) (a : Addr) (ccd : Value) (cl : List (Str × Addr)) (outer : List Env) (A₀ : Around) (h₀ : Heap) (L : Addr) (m : Str → Option Value) (s : Shared) (Q E : Value → Shared → Prop),
    Below A₀ base outer h₀ → Fr h₀ L s.heap m → (Mine.hd.heap_39 w.params).In h₀ → News h₀ L s.heap news → Top p loose mean mg mb h₀ → cs.kind = .function → CR news h₀ c' qual → h₀.IsList l vs.toArray →
    0 ≤ i → i < j → j ≤ ns.length → j - i < N → dp + N < recursionLimit → un + 8 * N < cLine →
    (∀ (t : Tok) (h' : Heap) (tk' : Nat), Fr h₀ L h' m → News h₀ L h' news → Q (.int (dv n (sl ns i j)) t) { s with heap := h', toks := tk' }) →
    wpAny (model prog w) (ktrTop dp un gd cn cs L a ccd cl outer) (call (.ref f) [.int i ti, .int j tj]) Q E s

theorem d2i_use {prog : Program} {w : World} {p : Program} {loose : List Str} {mean : ExcName → Option Value} {mg mb : Str → Option Value} {base : Heap} {f c' : Addr} {qual : Str} {l : Addr} {vs : List Value} {news : List (Addr × Obj)} {n : Nat} {ns : List Int} {N : Nat}
  {i j : Int} {ti tj : Tok} {dp un : Nat} {gd : Option (List Code)} {cn : Str} {cs : Scope} {a : Addr} {ccd : Value} {cl : List (Str × Addr)} {outer : List Env} {A₀ : Around} {h₀ : Heap} {L : Addr} {m : Str → Option Value} {s : Shared} {Q E : Value → Shared → Prop}
  (c : D2IClaim prog w p loose mean mg mb base f c' qual l vs news n ns N) (B : Below A₀ base outer h₀) (F : Fr h₀ L s.heap m) (X : (Mine.hd.heap_39 w.params).In h₀) (NN : News h₀ L s.heap news) (T : Top p loose mean mg mb h₀) (hk : cs.kind = .function) (hc : CR news h₀ c' qual) (hl : h₀.IsList l vs.toArray)
  (h1 : 0 ≤ i) (h2 : i < j) (h3 : j ≤ ns.length) (h4 : j - i < N) (h5 : dp + N < recursionLimit) (h6 : un + 8 * N < cLine)
  (ret : ∀ (t : Tok) (h' : Heap) (tk' : Nat), Fr h₀ L h' m → News h₀ L h' news → Q (.int (dv n (sl ns i j)) t) { s with heap := h', toks := tk' }) :
  wpAny (model prog w) (ktrTop dp un gd cn cs L a ccd cl outer) (call (.ref f) [.int i ti, .int j tj]) Q E s := c _ _ _ _ _ _ _ _ _ _ _ _ _ _ _ _ _ _ _ _ B F X NN T hk hc hl h1 h2 h3 h4 h5 h6 ret

local macro_rules | `(tactic| walk_at "call ref") => `(tactic| (k_here; (with_reducible show wpAny _ _ (call (Value.ref _) [Value.int _ _, Value.int _ _]) _ _ _); k_dflt (refine' d2i_use (by assumption) ?k1 ?k2 ?k3 ?k4 ?k5 ?kK ?kC ?kl ?a1 ?a2 ?a3 ?a4 ?a5 ?a6 ?_; (case k1 => k_asm); (case k2 => k_asm); (case k3 => k_asm); (case k4 => k_asm); (case k5 => k_asm); (case kK => exact rfl); (case kC => assumption); (case kl => assumption); (case a1 => (try simp only [fdiv2]); omega); (case a2 => (try simp only [fdiv2]); omega); (case a3 => (try simp only [fdiv2]); omega); (case a4 => (try simp only [fdiv2]); omega); (case a5 => ktr_room); (case a6 => ktr_units)); intro t9 h9 tk9 F9 N9))
local macro_rules | `(tactic| walk_at "binaryOp LShift int int") => `(tactic| (k_here; (with_reducible refine lshift_int ?_ ?_ ?_)))

theorem d2i_inner {prog : Program} {w : World} {p : Program} {loose : List Str} {mean : ExcName → Option Value} {mg mb : Str → Option Value} {base : Heap} {f c3 c2 c1 c' l : Addr} {o1 o2 o3 : Obj} {news : List (Addr × Obj)} {n : Nat} {tn : Tok} {vs : List Value} {ns : List Int}
  {oc1 : Value} {od1 : Option Addr} {osl1 : Array (Option Value)} {nm qq : Str} {pp : Arguments} {nm1 qual nm2 : Str} {params : Arguments} {body rest : List Stmt} {scope sc : Scope} {pos : Pos} {dV kV doc pm cdv ctt doc2 pm2 ctv : Value} {an : Option Addr}
  (ho : (Mine.hd.heap_39 w.params).lookup 42 = some ⟨oc1, od1, .func (fnOf nm qq pp (.FunctionDef nm1 params body [] none [] scope none nm2 pos :: rest) sc dV kV doc pm an cdv ctt), osl1⟩)
  (C1 : CodeHd base 41 37)
  (hf : (f, fnMade nm1 qual params body scope [(Str.ofString "n", c2), (Str.ofString "inner", c3), (Str.ofString "digits", c1)] doc2 pm2 c' ctv) ∈ news)
  (h3 : (c3, o3) ∈ news) (d3 : o3.data = .cell (some (.ref f))) (h2 : (c2, o2) ∈ news) (d2 : o2.data = .cell (some (.int n tn))) (h1 : (c1, o1) ∈ news) (d1 : o1.data = .cell (some (.ref l)))
  (hI : IntsAre vs ns) (hlen : ns.length < 100) (hn2 : n < 100) (hb : ∀ x ∈ ns, 0 ≤ x ∧ x < 2 ^ n) : ∀ N, D2IClaim prog w p loose mean mg mb base f c' qual l vs news n ns N := by
  refine' at_elim ?e ho ?k
  (case e => k_dflt k_is)
  intro q
  cases q
  clear ho
  intro N
  induction N with
  | zero => intro i j _ _ _ _ _ _ _ _ _ _ _ _ _ _ _ _ _ _ _ _ _ _ _ _ _ _ h1 h2 h3 h4; omega
  | succ N ih =>
    intro i j ti tj dp un gd cn cs a ccd cl outer A₀ h₀ L m s Q E B F X NN T hk hC hl hi hij hj hN hdp hun hret
    refine wpAny_call ?_
    k_dflt (refine' code_nest ?k1 ?k2 ?k3 ?k4 ?k5 ?kA ?kF ?kK ?k6 ?k7 ?k8 ?k9 ?kB ?_ ?c2 ?c3 ?c4 ?c5; (case kA => exact rfl); (case kF => exact rfl); (case kK => assumption); (case k1 => k_asm); (case k2 => k_asm); (case k3 => k_asm); (case k4 => k_asm); (case k5 => k_asm); (case k6 => k_mem); (case k7 => exact CR.at F NN hC); (case k8 => ktr_room); (case k9 => exact BindsTo.of_eq rfl); (case c5 => decide); (case kB => exact locs rfl); (case c2 => exact rfl); (case c3 => exact rfl); (case c4 => exact rfl))
    intro g' L' h' FG' F' N' B' X' T'
    have hC' := CR.keeps FG'.keep hC
    have hl' := stays_list FG'.keep hl
    try dsimp only
    k_steps
    · subst j
      rw [← dv_one (n := n) (ns := ns) hi (by omega)]
      exact hret _ _ _ (by assumption) (by assumption)
    · simp only [fdiv2]
      exact shl_pos (by omega)
    · simp only [fdiv2]
      exact shl_room hb hi (by omega) (by omega) hj hlen hn2
    · simp only [fdiv2]
      rw [dv_cut hi (by omega) (by omega) hj]
      exact hret _ _ _ (by assumption) (by assumption)
end
-- part D3
section
local macro_rules | `(tactic| walk_at "call ref") => `(tactic| (k_here; (with_reducible show wpAny _ _ (call (Value.ref _) [Value.int _ _, Value.int _ _]) _ _ _); refine Held.out ?_))
theorem n30 : (30 : Addr) ∉ ([37] : List Addr) := by decide
theorem led37 {line col : Nat} {ps qs : Array Value} {c1 c2 c : Addr} {o1 o2 oc : Obj} {news' : List (Addr × Obj)} {R : Prop} (tsn : c1 ≠ 37 ∧ R) (h1 : (37, tabObj #[rawInt line, rawInt col, .ref c]) ∈ news') (h2 : (c, oc) ∈ news') :
    ∀ p ∈ TS.led ⟨ps, #[rawInt line, rawInt col, .ref c], c1, c, o1, oc⟩, p ∈ news' ∨ (p ∈ TS.led ⟨ps, qs, c1, c2, o1, o2⟩ ∧ p.1 ∉ [37]) := fun p hp => by
  rcases List.mem_cons.mp hp with rfl | hp
  · exact .inr ⟨.head _, n30⟩
  rcases List.mem_cons.mp hp with rfl | hp
  · exact .inl h1
  rcases List.mem_cons.mp hp with rfl | hp
  · exact .inr ⟨.tail _ (.tail _ (.head _)), by simpa using tsn.1⟩
  rcases List.mem_cons.mp hp with rfl | hp
  · exact .inl h2
  · cases hp
theorem led37' {ps qs qs' : Array Value} {c1 c2 : Addr} {o1 o2 : Obj} {news' : List (Addr × Obj)} {R : Prop} (tsn : c1 ≠ 37 ∧ R) (hc : c2 ≠ 37) (h1 : (37, tabObj qs') ∈ news') :
    ∀ p ∈ TS.led ⟨ps, qs', c1, c2, o1, o2⟩, p ∈ news' ∨ (p ∈ TS.led ⟨ps, qs, c1, c2, o1, o2⟩ ∧ p.1 ∉ [37]) := fun p hp => by
  rcases List.mem_cons.mp hp with rfl | hp
  · exact .inr ⟨.head _, n30⟩
  rcases List.mem_cons.mp hp with rfl | hp
  · exact .inl h1
  rcases List.mem_cons.mp hp with rfl | hp
  · exact .inr ⟨.tail _ (.tail _ (.head _)), by simpa using tsn.1⟩
  rcases List.mem_cons.mp hp with rfl | hp
  · exact .inr ⟨.tail _ (.tail _ (.tail _ (.head _))), by simpa using hc⟩
  · cases hp
theorem c42 {prog : Program} {w : World} {p : Program} {loose : List Str} {mean : ExcName → Option Value} {mg mb : Str → Option Value} {base : Heap} {l : Addr} {vs : List Value} {ns : List Int} {n : Nat} {tn : Tok}
    (C1 : CodeHd base 41 37) (hI : IntsAre vs ns) (hlen : ns.length < 100) (hn2 : n < 100) (hb : ∀ x ∈ ns, 0 ≤ x ∧ x < 2 ^ n) :
    Ctr prog w p loose mean mg mb base 42 [.ref l, .int n tn] 150 (fun own => ∃ k, (l, listOf vs.toArray k) ∈ own) (fun v new => new = [] ∧ ∃ t, v = .int (dv n ns) t) := by
  intro dp un gd cn cs a ccd cl outer A₀ h₀ L m s Q E own x B F X NN T hk ok hn hpre hd hu ret
  obtain ⟨k, hpre⟩ := hpre
  have hl : s.heap.IsList l vs.toArray := ⟨_, (NN _ (List.mem_append_left _ hpre)).1, rfl, k, rfl⟩
  have tsn := ts_ne NN ok
  have N : News h₀ L s.heap [(37, tabObj x.qs)] := fun q hq => NN q (List.mem_append_right _ (.tail _ (by cases hq with | head => exact .head _ | tail _ hq => cases hq)))
  have h37 := (N _ (.head _)).1
  obtain ⟨ps, qs, c1, c2, o1, o2⟩ := x
  have hx := ok.d
  rcases hx with ⟨hqs, hc2, ho2⟩ | ⟨cvs, ct, hqs, hcd, hcv, hcP⟩
  · try dsimp only at hqs hc2 ho2 tsn
    subst hqs hc2 ho2
    walk_at "enter_c"
    have hl' : g'.IsList l vs.toArray := KG'.list hl (fun q hq => by cases hq with | head => exact ⟨_, h37⟩ | tail _ hq => cases hq)
    clear X T B N
    k_steps
    · unfold Held
      k_dflt (refine' d2i_use (d2i_inner (w := w) (qual := qD) (f := _) (c' := _) ?ho C1 ?hf ?h3 ?d3 ?h2 ?d2 ?h1 ?d1 hI hlen hn2 hb 101) ?B ?F ?X ?N ?T ?hk ?hC hl' ?a1 ?a2 ?a3 ?a4 ?a5 ?a6 ?_; (case F => k_asm); (case N => k_asm); (case B => k_asm); (case X => k_asm); (case T => k_asm); (case hk => exact rfl); (case hf => k_mem); (case ho => k_is); (case h3 => k_mem); (case d3 => assumption); (case h2 => k_mem); (case d2 => assumption); (case h1 => k_mem); (case d1 => assumption); (case a1 => omega); (case a2 => omega); (case a3 => omega); (case a4 => omega); (case a5 => ktr_room); (case a6 => ktr_units))
      case hC => exact ⟨_, _, _, .inl (by k_mem), by assumption, by with_unfolding_all assumption⟩
      intro t9 h9 tk9 F9 N9
      rw [sl_all]
      obtain ⟨FF, NF, AP⟩ := ctr_end (T := [37]) (new := []) (y := ⟨ps, _, c1, _, o1, _⟩) F NN ok hn (fun b hb => by cases hb with | head => exact .tail _ (.head _) | tail _ hq => cases hq) KG' SG' F9 N9 (fun _ hp => nomatch hp)
        (led37 (line := 47) (col := 4) tsn (by k_mem) (by k_mem)) rfl ⟨ok.i, .inr ⟨_, _, rfl, by assumption, by with_unfolding_all assumption, by k_ne⟩⟩
      exact ret _ [] _ _ _ FF NF ⟨ok.i, .inr ⟨_, _, rfl, by assumption, by with_unfolding_all assumption, by k_ne⟩⟩ AP ⟨rfl, _, rfl⟩
    · have e : ns = [] := by
        cases ns with
        | nil => rfl
        | cons x r => rename_i q; exact absurd (Nat.succ_pos _) q
      subst e
      obtain ⟨FF, NF, AP⟩ := ctr_end (T := [37]) (new := []) (y := ⟨ps, _, c1, _, o1, _⟩) F NN ok hn (fun b hb => by cases hb with | head => exact .tail _ (.head _) | tail _ hq => cases hq) KG' SG' (by assumption) (by assumption) (fun _ hp => nomatch hp)
        (led37 (line := 47) (col := 4) tsn (by k_mem) (by k_mem)) rfl ⟨ok.i, .inr ⟨_, _, rfl, by assumption, by with_unfolding_all assumption, by k_ne⟩⟩
      exact ret _ [] _ _ _ FF NF ⟨ok.i, .inr ⟨_, _, rfl, by assumption, by with_unfolding_all assumption, by k_ne⟩⟩ AP ⟨rfl, _, rfl⟩
  · try dsimp only at hqs hcd hcv hcP tsn
    subst hqs
    walk_at "enter_c"
    have hl' : g'.IsList l vs.toArray := KG'.list hl (fun q hq => by cases hq with | head => exact ⟨_, h37⟩ | tail _ hq => cases hq)
    have hcg : g'.get? c2 = some o2 := KG' _ _ (by simpa using hcP) (NN _ (List.mem_append_right _ (.tail _ (.tail _ (.tail _ (.head _)))))).1
    clear X T B N
    k_steps
    · unfold Held
      k_dflt (refine' d2i_use (d2i_inner (w := w) (qual := qD) (f := _) (c' := _) ?ho C1 ?hf ?h3 ?d3 ?h2 ?d2 ?h1 ?d1 hI hlen hn2 hb 101) ?B ?F ?X ?N ?T ?hk ?hC hl' ?a1 ?a2 ?a3 ?a4 ?a5 ?a6 ?_; (case F => k_asm); (case N => k_asm); (case B => k_asm); (case X => k_asm); (case T => k_asm); (case hk => exact rfl); (case hf => k_mem); (case ho => k_is); (case h3 => k_mem); (case d3 => assumption); (case h2 => k_mem); (case d2 => assumption); (case h1 => k_mem); (case d1 => assumption); (case a1 => omega); (case a2 => omega); (case a3 => omega); (case a4 => omega); (case a5 => ktr_room); (case a6 => ktr_units))
      case hC => exact ⟨_, _, _, .inr hcg, hcd, hcv⟩
      intro t9 h9 tk9 F9 N9
      rw [sl_all]
      obtain ⟨FF, NF, AP⟩ := ctr_end (T := [37]) (new := []) (y := ⟨ps, _, c1, c2, o1, o2⟩) F NN ok hn (fun b hb => by cases hb with | head => exact .tail _ (.head _) | tail _ hq => cases hq) KG' SG' F9 N9 (fun _ hp => nomatch hp)
        (led37' tsn hcP (by k_mem)) rfl ok
      exact ret _ [] _ _ _ FF NF ok AP ⟨rfl, _, rfl⟩
    · have e : ns = [] := by
        cases ns with
        | nil => rfl
        | cons x r => rename_i q; exact absurd (Nat.succ_pos _) q
      subst e
      obtain ⟨FF, NF, AP⟩ := ctr_end (T := [37]) (new := []) (y := ⟨ps, _, c1, c2, o1, o2⟩) F NN ok hn (fun b hb => by cases hb with | head => exact .tail _ (.head _) | tail _ hq => cases hq) KG' SG' (by assumption) (by assumption) (fun _ hp => nomatch hp)
        (led37' tsn hcP (by k_mem)) rfl ok
      exact ret _ [] _ _ _ FF NF ok AP ⟨rfl, _, rfl⟩
end
-- part I2
section
def I2IClaim (prog : Program) (w : World) (p : Program) (loose : List Str) (mean : ExcName → Option Value) (mg mb : Str → Option Value) (base : Heap) (f c' : Addr) (qual : Str) (l : Addr) (k n len : Nat) (news : List (Addr × Obj)) (N : Nat) : Prop :=
  ∀ (x i j : Int) (tx ti tj : Tok) (vs : List Value) (ns : List Int) (dp un : Nat) (gd : Option (List Code)) (cn : Str) (cs : Scope) (a : Addr) (ccd : Value) (cl : List (Str × Addr)) (outer : List Env) (A₀ : Around) (h₀ : Heap) (L : Addr) (m : Str → Option Value) (s : Shared) (Q E : Value → Shared → Prop),
    Below A₀ base outer h₀ → Fr h₀ L s.heap m → (Mine.hd.heap_39 w.params).In h₀ → News h₀ L s.heap ((l, listOf vs.toArray k) :: news) → Top p loose mean mg mb h₀ → cs.kind = .function → CR news h₀ c' qual → IntsAre vs ns → ns.length = len →
    0 ≤ i → i < j → j ≤ len → j - i < N → 0 ≤ x → x < 2 ^ (n * (j - i).toNat) → dp + N < recursionLimit → un + 8 * N < cLine →
    (∀ (vs' : List Value) (h' : Heap) (tk' : Nat), IntsAre vs' (upd ns i j (dg n (j - i).toNat x)) → Fr h₀ L h' m → News h₀ L h' ((l, listOf vs'.toArray k) :: news) → Q .none { s with heap := h', toks := tk' }) →
    wpAny (model prog w) (ktrTop dp un gd cn cs L a ccd cl outer) (call (.ref f) [.int x tx, .int i ti, .int j tj]) Q E s

theorem i2i_use {prog : Program} {w : World} {p : Program} {loose : List Str} {mean : ExcName → Option Value} {mg mb : Str → Option Value} {base : Heap} {f c' : Addr} {qual : Str} {l : Addr} {k n len : Nat} {news : List (Addr × Obj)} {N : Nat}
  {x i j : Int} {tx ti tj : Tok} {vs : List Value} {ns : List Int} {dp un : Nat} {gd : Option (List Code)} {cn : Str} {cs : Scope} {a : Addr} {ccd : Value} {cl : List (Str × Addr)} {outer : List Env} {A₀ : Around} {h₀ : Heap} {L : Addr} {m : Str → Option Value} {s : Shared} {Q E : Value → Shared → Prop}
  (c : I2IClaim prog w p loose mean mg mb base f c' qual l k n len news N) (B : Below A₀ base outer h₀) (F : Fr h₀ L s.heap m) (X : (Mine.hd.heap_39 w.params).In h₀) (NN : News h₀ L s.heap ((l, listOf vs.toArray k) :: news)) (T : Top p loose mean mg mb h₀) (hk : cs.kind = .function) (hc : CR news h₀ c' qual) (hI : IntsAre vs ns) (hl : ns.length = len)
  (h1 : 0 ≤ i) (h2 : i < j) (h3 : j ≤ len) (h4 : j - i < N) (h5 : 0 ≤ x) (h6 : x < 2 ^ (n * (j - i).toNat)) (h7 : dp + N < recursionLimit) (h8 : un + 8 * N < cLine)
  (ret : ∀ (vs' : List Value) (h' : Heap) (tk' : Nat), IntsAre vs' (upd ns i j (dg n (j - i).toNat x)) → Fr h₀ L h' m → News h₀ L h' ((l, listOf vs'.toArray k) :: news) → Q .none { s with heap := h', toks := tk' }) :
  wpAny (model prog w) (ktrTop dp un gd cn cs L a ccd cl outer) (call (.ref f) [.int x tx, .int i ti, .int j tj]) Q E s := c _ _ _ _ _ _ _ _ _ _ _ _ _ _ _ _ _ _ _ _ _ _ _ _ B F X NN T hk hc hI hl h1 h2 h3 h4 h5 h6 h7 h8 ret

local macro_rules | `(tactic| walk_at "call ref") => `(tactic| (k_here; (with_reducible show wpAny _ _ (call (Value.ref _) [Value.int _ _, Value.int _ _, Value.int _ _]) _ _ _); refine Held.out ?_))
local macro_rules | `(tactic| walk_at "binaryOp LShift int int") => `(tactic| (k_here; (with_reducible refine lshift_int ?_ ?_ ?_)))
local macro_rules | `(tactic| walk_at "binaryOp RShift int int") => `(tactic| (k_here; (with_reducible refine rshift_int ?_ ?_)))
local macro_rules | `(tactic| k_all) => `(tactic| assumption)
local macro_rules | `(tactic| k_mem) => `(tactic| exact List.Mem.tail _ (by assumption))

theorem i2i_inner {prog : Program} {w : World} {p : Program} {loose : List Str} {mean : ExcName → Option Value} {mg mb : Str → Option Value} {base : Heap} {f c3 c2 c1 c' l : Addr} {o1 o2 o3 : Obj} {news : List (Addr × Obj)} {n k len : Nat} {tn : Tok}
  {oc1 : Value} {od1 : Option Addr} {osl1 : Array (Option Value)} {nm qq : Str} {pp : Arguments} {st0 : Stmt} {nm1 qual nm2 : Str} {params : Arguments} {body rest : List Stmt} {scope sc : Scope} {pos : Pos} {dV kV doc pm cdv ctt doc2 pm2 ctv : Value} {an : Option Addr}
  (ho : (Mine.hd.heap_39 w.params).lookup 35 = some ⟨oc1, od1, .func (fnOf nm qq pp (st0 :: .FunctionDef nm1 params body [] none [] scope none nm2 pos :: rest) sc dV kV doc pm an cdv ctt), osl1⟩)
  (C1 : CodeHd base 34 30)
  (hf : (f, fnMade nm1 qual params body scope [(Str.ofString "n", c2), (Str.ofString "inner", c3), (Str.ofString "a_digits", c1)] doc2 pm2 c' ctv) ∈ news)
  (h3 : (c3, o3) ∈ news) (d3 : o3.data = .cell (some (.ref f))) (h2 : (c2, o2) ∈ news) (d2 : o2.data = .cell (some (.int n tn))) (h1 : (c1, o1) ∈ news) (d1 : o1.data = .cell (some (.ref l)))
  (hoff : ∀ q ∈ news, q.1 ≠ l) (hlen : len < 100) (hn2 : n < 100) : ∀ N, I2IClaim prog w p loose mean mg mb base f c' qual l k n len news N := by
  refine' at_elim ?e ho ?k
  (case e => k_dflt k_is)
  intro q
  cases q
  clear ho
  intro N
  induction N with
  | zero => intro x i j _ _ _ _ _ _ _ _ _ _ _ _ _ _ _ _ _ _ _ _ _ _ _ _ _ _ _ _ _ _ h1; omega
  | succ N ih =>
    intro x i j tx ti tj vs ns dp un gd cn cs a ccd cl outer A₀ h₀ L m s Q E B F X NN T hk hC hI hns hi hij hj hN hx0 hx1 hdp hun hret
    refine wpAny_call ?_
    k_dflt (refine' code_nest ?k1 ?k2 ?k3 ?k4 ?k5 ?kA ?kF ?kK ?k6 ?k7 ?k8 ?k9 ?kB ?_ ?c2 ?c3 ?c4 ?c5; (case kA => exact rfl); (case kF => exact rfl); (case kK => assumption); (case k1 => k_asm); (case k2 => k_asm); (case k3 => k_asm); (case k4 => k_asm); (case k5 => k_asm); (case k6 => k_mem); (case k7 => exact CR.at F (fun q hq => NN q (.tail _ hq)) hC); (case k8 => ktr_room); (case k9 => exact BindsTo.of_eq rfl); (case c5 => decide); (case kB => exact locs rfl); (case c2 => exact rfl); (case c3 => exact rfl); (case c4 => exact rfl))
    intro g' L' h' FG' F' N' B' X' T'
    have hC' := CR.keeps FG'.keep hC
    try dsimp only
    k_steps
    · have e1 : i + 1 = j := by assumption
      subst e1
      refine hret _ _ _ ?_ (by assumption) (by assumption)
      rw [← upd_one hi (by omega) hx0 hx1]
      assumption
    · simp only [fdiv2]
      exact shl_pos (by omega)
    · simp only [fdiv2]
      exact shl_pos (by omega)
    · simp only [fdiv2]
      exact shl_room2 (j := j) hi (by omega) (by omega) (by omega) hn2 hx0 hx1
    · unfold Held
      have hm : i < (i + j).fdiv (2 ^ Int.toNat 1) ∧ (i + j).fdiv (2 ^ Int.toNat 1) < j := by rw [fdiv2]; omega
      have hlo : Builtin.bitXor x (x.fdiv (2 ^ ((((i + j).fdiv (2 ^ Int.toNat 1)) - i) * (n : Int)).toNat) * 2 ^ ((((i + j).fdiv (2 ^ Int.toNat 1)) - i) * (n : Int)).toNat) = x % 2 ^ (n * (((i + j).fdiv (2 ^ Int.toNat 1)) - i).toNat) := cut_low (by omega) hx0
      have hhi : x.fdiv (2 ^ ((((i + j).fdiv (2 ^ Int.toNat 1)) - i) * (n : Int)).toNat) = x / 2 ^ (n * (((i + j).fdiv (2 ^ Int.toNat 1)) - i).toNat) := cut_high (by omega)
      have hh := high_lt (n := n) (i := i) (m := ((i + j).fdiv (2 ^ Int.toNat 1))) (j := j) (by omega) (by omega) hx0 hx1
      have hl2 := low_lt (x := x) (s := n * (((i + j).fdiv (2 ^ Int.toNat 1)) - i).toNat)
      k_dflt (refine' i2i_use ih ?k1 ?k2 ?k3 ?k4 ?k5 ?kK ?kC hI hns hi hm.1 ?a1 ?a2 ?a3 ?a4 ?a5 ?a6 ?_; (case k1 => k_asm); (case k2 => k_asm); (case k3 => k_asm); (case k4 => k_asm); (case k5 => k_asm); (case kK => exact rfl); (case kC => exact hC'); (case a1 => omega); (case a2 => omega); (case a3 => rw [hlo]; exact hl2.1); (case a4 => rw [hlo]; exact hl2.2); (case a5 => ktr_room); (case a6 => ktr_units))
      intro vs9 h9 tk9 hI9 F9 N9
      rw [hlo] at hI9
      k_steps
      unfold Held
      have hl9 := upd_len (ns := ns) (d := dg n (((i + j).fdiv (2 ^ Int.toNat 1)) - i).toNat (x % 2 ^ (n * (((i + j).fdiv (2 ^ Int.toNat 1)) - i).toNat))) hi (Int.le_of_lt hm.1) (by omega) dg_len
      k_dflt (refine' i2i_use ih ?k1 ?k2 ?k3 ?k4 ?k5 ?kK ?kC hI9 (hl9.trans hns) ?a0 hm.2 ?a1 ?a2 ?a3 ?a4 ?a5 ?a6 ?_; (case k1 => k_asm); (case k2 => k_asm); (case k3 => k_asm); (case k4 => k_asm); (case k5 => k_asm); (case kK => exact rfl); (case kC => exact hC'); (case a0 => omega); (case a1 => omega); (case a2 => omega); (case a3 => rw [hhi]; exact hh.1); (case a4 => rw [hhi]; exact hh.2); (case a5 => ktr_room); (case a6 => ktr_units))
      intro vs8 h8 tk8 hI8 F8 N8
      rw [hhi, upd_cut hi (Int.le_of_lt hm.1) (Int.le_of_lt hm.2) (by omega)] at hI8
      k_steps
      exact hret _ _ _ hI8 (by assumption) (by assumption)
end
-- part I3
section
local macro_rules | `(tactic| walk_at "call ref") => `(tactic| (k_here; (with_reducible show wpAny _ _ (call (Value.ref _) [Value.int _ _, Value.int _ _, Value.int _ _]) _ _ _); refine Held.out ?_))
set_option hygiene false in
local macro_rules | `(tactic| walk_at "binaryOp Mult ref int") => `(tactic| (k_here; (with_reducible show wpAny _ _ (binaryOp Operator.Mult (Value.ref _) (Value.int _ _)) _ _ _); k_dflt (refine' mulz (k := dlen a0 n) ?k1 ?k2 ?k3 ?k4 ?k5 ?_; (case k1 => k_asm); (case k2 => k_asm); (case k3 => k_mem); (case k4 => exact dlen_eq hn1); (case k5 => exact Nat.le_trans (dlen_le hn1) (by omega))); intro D8 h8 vs8 F8 N8 l8 i8 z8; (try k_lt l8)))
theorem n37 : (37 : Addr) ∉ ([30] : List Addr) := by decide
theorem led30 {line col : Nat} {ps qs : Array Value} {c1 c2 c : Addr} {o1 o2 oc : Obj} {news' : List (Addr × Obj)} {R : Prop} (tsn : R ∧ c2 ≠ 30) (h1 : (30, tabObj #[rawInt line, rawInt col, .ref c]) ∈ news') (h2 : (c, oc) ∈ news') :
    ∀ p ∈ TS.led ⟨#[rawInt line, rawInt col, .ref c], qs, c, c2, oc, o2⟩, p ∈ news' ∨ (p ∈ TS.led ⟨ps, qs, c1, c2, o1, o2⟩ ∧ p.1 ∉ [30]) := fun p hp => by
  rcases List.mem_cons.mp hp with rfl | hp
  · exact .inl h1
  rcases List.mem_cons.mp hp with rfl | hp
  · exact .inr ⟨.tail _ (.head _), n37⟩
  rcases List.mem_cons.mp hp with rfl | hp
  · exact .inl h2
  rcases List.mem_cons.mp hp with rfl | hp
  · exact .inr ⟨.tail _ (.tail _ (.tail _ (.head _))), by simpa using tsn.2⟩
  · cases hp
theorem led30' {ps qs ps' : Array Value} {c1 c2 : Addr} {o1 o2 : Obj} {news' : List (Addr × Obj)} {R : Prop} (tsn : R ∧ c2 ≠ 30) (hc : c1 ≠ 30) (h1 : (30, tabObj ps') ∈ news') :
    ∀ p ∈ TS.led ⟨ps', qs, c1, c2, o1, o2⟩, p ∈ news' ∨ (p ∈ TS.led ⟨ps, qs, c1, c2, o1, o2⟩ ∧ p.1 ∉ [30]) := fun p hp => by
  rcases List.mem_cons.mp hp with rfl | hp
  · exact .inl h1
  rcases List.mem_cons.mp hp with rfl | hp
  · exact .inr ⟨.tail _ (.head _), n37⟩
  rcases List.mem_cons.mp hp with rfl | hp
  · exact .inr ⟨.tail _ (.tail _ (.head _)), by simpa using hc⟩
  rcases List.mem_cons.mp hp with rfl | hp
  · exact .inr ⟨.tail _ (.tail _ (.tail _ (.head _))), by simpa using tsn.2⟩
  · cases hp
theorem c35 {prog : Program} {w : World} {p : Program} {loose : List Str} {mean : ExcName → Option Value} {mg mb : Str → Option Value} {base : Heap} {a0 : Int} {ta : Tok} {n : Nat} {tn : Tok}
    (C1 : CodeHd base 34 30) (ha : 0 ≤ a0) (ha2 : Builtin.Int.intBits a0 ≤ 64) (hn1 : 0 < n) (hn2 : n < 65) :
    Ctr prog w p loose mean mg mb base 35 [.int a0 ta, .int n tn] 150 (fun own => True) (fun v new => ∃ l vs k, v = .ref l ∧ new = [(l, listOf (List.toArray vs) k)] ∧ IntsAre vs (digs n a0)) := by
  have dl : dlen a0 n ≤ 64 := Nat.le_trans (dlen_le hn1) ha2
  have dlt := dlen_lt (a := a0) hn1 ha
  intro dp un gd cn cs a ccd cl outer A₀ h₀ L m s Q E own x B F X NN T hk ok hn hpre hd hu ret
  have tsn := ts_ne NN ok
  have N : News h₀ L s.heap [(30, tabObj x.ps)] := fun q hq => NN q (List.mem_append_right _ (by cases hq with | head => exact .head _ | tail _ hq => cases hq))
  have h30 := (N _ (.head _)).1
  obtain ⟨ps, qs, c1, c2, o1, o2⟩ := x
  have hx := ok.i
  rcases hx with ⟨hqs, hc2, ho2⟩ | ⟨cvs, ct, hqs, hcd, hcv, hcP⟩
  · try dsimp only at hqs hc2 ho2 tsn
    subst hqs hc2 ho2
    walk_at "enter_c"
    clear X T B N
    k_steps
    · unfold Held
      rename News _ _ _ _ => N7
      have NP := News.pick (x := (D8, listOf vs8.toArray 0)) N7 (by repeat (first | exact Pick.here | apply Pick.there))
      have ap : 0 < a0 := by rename_i q; omega
      have dp2 := dlen_pos hn1 ap
      k_dflt (refine' i2i_use (i2i_inner (w := w) (qual := qI) (f := _) (c' := _) (len := dlen a0 n) ?ho C1 ?hf ?h3 ?d3 ?h2 ?d2 ?h1 ?d1 ?off ?hlen ?hn2 101) ?B ?F ?X NP ?T ?hk ?hC i8 ?hl ?a1 ?a2 ?a3 ?a4 ?a5 ?a6 ?a7 ?a8 ?_; (case F => k_asm); (case B => k_asm); (case X => k_asm); (case T => k_asm); (case hk => exact rfl); (case hf => k_mem); (case ho => k_is); (case h3 => k_mem); (case d3 => assumption); (case h2 => k_mem); (case d2 => assumption); (case h1 => k_mem); (case d1 => assumption); (case off => k_all); (case hlen => omega); (case hn2 => omega); (case hl => exact List.length_replicate); (case a1 => omega); (case a2 => omega); (case a3 => omega); (case a4 => omega); (case a5 => exact ha); (case a6 => exact dlt); (case a7 => ktr_room); (case a8 => ktr_units))
      case hC => exact ⟨_, _, _, .inl (by k_mem), by assumption, by with_unfolding_all assumption⟩
      intro vs9 h9 tk9 hI9 F9 N9
      have hI9 : IntsAre vs9 (digs n a0) := by rw [upd_all (by rw [dg_len]; omega)] at hI9; exact hI9
      k_steps
      obtain ⟨FF, NF, AP⟩ := ctr_end (T := [30]) (new := [(D8, listOf (List.toArray vs9) 0)]) (y := ⟨_, qs, _, c2, _, o2⟩) F NN ok hn (fun b hb => by cases hb with | head => exact .head _ | tail _ hq => cases hq) KG' SG' F9 N9 (fun p hp => by rcases List.mem_cons.mp hp with rfl | hp; (· k_mem); (· cases hp))
        (led30 (line := 32) (col := 4) tsn (by k_mem) (by k_mem)) rfl ⟨.inr ⟨_, _, rfl, by assumption, by with_unfolding_all assumption, by k_ne⟩, ok.d⟩
      exact ret _ _ _ _ _ FF NF ⟨.inr ⟨_, _, rfl, by assumption, by with_unfolding_all assumption, by k_ne⟩, ok.d⟩ AP ⟨_, _, _, rfl, rfl, hI9⟩
    · have e : a0 = 0 := by assumption
      subst e
      obtain ⟨FF, NF, AP⟩ := ctr_end (T := [30]) (new := [(D8, listOf (List.toArray vs8) 0)]) (y := ⟨_, qs, _, c2, _, o2⟩) F NN ok hn (fun b hb => by cases hb with | head => exact .head _ | tail _ hq => cases hq) KG' SG' (by assumption) (by assumption) (fun p hp => by rcases List.mem_cons.mp hp with rfl | hp; (· k_mem); (· cases hp))
        (led30 (line := 32) (col := 4) tsn (by k_mem) (by k_mem)) rfl ⟨.inr ⟨_, _, rfl, by assumption, by with_unfolding_all assumption, by k_ne⟩, ok.d⟩
      exact ret _ _ _ _ _ FF NF ⟨.inr ⟨_, _, rfl, by assumption, by with_unfolding_all assumption, by k_ne⟩, ok.d⟩ AP ⟨_, _, _, rfl, rfl, by rw [dlen_zero hn1] at i8; show IntsAre vs8 (dg n (dlen 0 n) 0); rw [dlen_zero hn1]; exact i8⟩
  · try dsimp only at hqs hcd hcv hcP tsn
    subst hqs
    walk_at "enter_c"
    have hcg : g'.get? c1 = some o1 := KG' _ _ (by simpa using hcP) (NN _ (List.mem_append_right _ (.tail _ (.tail _ (.head _))))).1
    clear X T B N
    k_steps
    · unfold Held
      rename News _ _ _ _ => N7
      have NP := News.pick (x := (D8, listOf vs8.toArray 0)) N7 (by repeat (first | exact Pick.here | apply Pick.there))
      have ap : 0 < a0 := by rename_i q; omega
      have dp2 := dlen_pos hn1 ap
      k_dflt (refine' i2i_use (i2i_inner (w := w) (qual := qI) (f := _) (c' := _) (len := dlen a0 n) ?ho C1 ?hf ?h3 ?d3 ?h2 ?d2 ?h1 ?d1 ?off ?hlen ?hn2 101) ?B ?F ?X NP ?T ?hk ?hC i8 ?hl ?a1 ?a2 ?a3 ?a4 ?a5 ?a6 ?a7 ?a8 ?_; (case F => k_asm); (case B => k_asm); (case X => k_asm); (case T => k_asm); (case hk => exact rfl); (case hf => k_mem); (case ho => k_is); (case h3 => k_mem); (case d3 => assumption); (case h2 => k_mem); (case d2 => assumption); (case h1 => k_mem); (case d1 => assumption); (case off => k_all); (case hlen => omega); (case hn2 => omega); (case hl => exact List.length_replicate); (case a1 => omega); (case a2 => omega); (case a3 => omega); (case a4 => omega); (case a5 => exact ha); (case a6 => exact dlt); (case a7 => ktr_room); (case a8 => ktr_units))
      case hC => exact ⟨_, _, _, .inr hcg, hcd, hcv⟩
      intro vs9 h9 tk9 hI9 F9 N9
      have hI9 : IntsAre vs9 (digs n a0) := by rw [upd_all (by rw [dg_len]; omega)] at hI9; exact hI9
      k_steps
      obtain ⟨FF, NF, AP⟩ := ctr_end (T := [30]) (new := [(D8, listOf (List.toArray vs9) 0)]) (y := ⟨_, qs, c1, c2, o1, o2⟩) F NN ok hn (fun b hb => by cases hb with | head => exact .head _ | tail _ hq => cases hq) KG' SG' F9 N9 (fun p hp => by rcases List.mem_cons.mp hp with rfl | hp; (· k_mem); (· cases hp))
        (led30' tsn hcP (by k_mem)) rfl ok
      exact ret _ _ _ _ _ FF NF ok AP ⟨_, _, _, rfl, rfl, hI9⟩
    · have e : a0 = 0 := by assumption
      subst e
      obtain ⟨FF, NF, AP⟩ := ctr_end (T := [30]) (new := [(D8, listOf (List.toArray vs8) 0)]) (y := ⟨_, qs, c1, c2, o1, o2⟩) F NN ok hn (fun b hb => by cases hb with | head => exact .head _ | tail _ hq => cases hq) KG' SG' (by assumption) (by assumption) (fun p hp => by rcases List.mem_cons.mp hp with rfl | hp; (· k_mem); (· cases hp))
        (led30' tsn hcP (by k_mem)) rfl ok
      exact ret _ _ _ _ _ FF NF ok AP ⟨_, _, _, rfl, rfl, by rw [dlen_zero hn1] at i8; show IntsAre vs8 (dg n (dlen 0 n) 0); rw [dlen_zero hn1]; exact i8⟩
end
-- part V1
section
local macro_rules | `(tactic| walk_at "exec For Name Call cons nil") => `(tactic| (k_here; (rename Fr _ _ _ _ => lF'); (with_unfolding_all refine' For_invVF lF' ?k1 ?k2 ?_; (case k1 => exact rfl); (case k2 => exact rfl); k_whole)))
local macro_rules | `(tactic| walk_at "pyIter ref") => `(tactic| (k_here; refine Held.out ?_))
local macro_rules | `(tactic| walk_at "call ref") => `(tactic| (k_here; refine Held.out ?_))
local macro_rules | `(tactic| walk_at "binaryOp LShift int int") => `(tactic| (k_here; (with_reducible refine lshift_int ?_ ?_ ?_)))
local macro_rules | `(tactic| walk_at "RvPost") => `(tactic| (dsimp only [RvPost]))
local macro_rules | `(tactic| walk_at "call builtin:list.append") => `(tactic| (k_here; (with_reducible show wpAny _ _ (call (Value.builtin _) [Value.ref _, _]) _ _ _); k_dflt (refine' append_K ?k1 ?k2 ?k3 ?_ ?z; (case k1 => k_asm); (case k2 => k_asm); (case k3 => k_upd); (case z => assumption); k_whole); intro h' F' N'; (try k_sweep)))
local macro_rules | `(tactic| walk_at "call builtin:divmod") => `(tactic| (k_here; (with_reducible show wpAny _ _ (call (Value.builtin _) [Value.int _ _, Value.int _ _]) _ _ _); k_dflt (refine' divmod_K ?k1 ?k2 ?k3 ?k4 ?_; (case k1 => k_asm); (case k2 => k_asm); (case k3 => assumption); (case k4 => assumption); k_whole); intro D' h' t1' t2' tk' F' N' l'; (try k_lt l'); (try k_sweep)))
local macro_rules | `(tactic| walk_at "call builtin:list.reverse") => `(tactic| (k_here; (with_reducible show wpAny _ _ (call (Value.builtin _) _) _ _ _); k_dflt (refine' kl_reverse ?F ?N ?e ?U ?z ?_; (case F => k_asm); (case N => k_asm); (case U => k_upd); (case e => exact rfl); (case z => assumption)); intro h' F' N'; (try k_sweep)))
theorem c49 {prog : Program} {w : World} {p : Program} {loose : List Str} {mean : ExcName → Option Value} {mg mb : Str → Option Value} {base : Heap} {a0 b0 : Int} {ta tb : Tok}
    (C1 : CodeHd base 34 30) (C2 : CodeHd base 41 37) (ha : 0 ≤ a0) (ha2 : a0 < 2 ^ 40) (hb : 0 < b0) (hb2 : b0 < 1073741824) :
    Ctr prog w p loose mean mg mb base 49 [.int a0 ta, .int b0 tb] 160 (fun own => True) (fun v new => ∃ l t1 t2, v = .ref l ∧ new = [(l, tp [.int (a0 / b0) t1, .int (a0 % b0) t2])]) := by
  intro dp un gd cn cs a ccd cl outer A₀ h₀ L m s Q E own x B F X NN T hk ok hn hpre hd hu ret
  have N : News h₀ L s.heap [(30, tabObj x.ps), (37, tabObj x.qs), (x.c1, x.o1), (x.c2, x.o2)] := fun q hq => NN q (List.mem_append_right _ hq)
  walk_at "enter_d"
  clear X T B N
  have hbn : Builtin.Int.intBits b0 ≤ 30 := bits_of (Int.le_of_lt hb) hb2
  have hbp := bits_pos hb
  k_steps
  unfold Held
  k_dflt (refine' ctr_use (c35 (n := Builtin.Int.intBits b0) C1 ha (Nat.le_trans (bits_of (k := 40) ha ha2) (by decide)) hbp (by omega)) ?B ?F ?X ?N ?ht ?T ?hk ?ok ?hn ?pre ?hd ?hu ?_; (case B => k_asm); (case F => k_asm); (case X => k_asm); (case N => k_asm); (case T => k_asm); (case hk => exact rfl); (case ok => assumption); (case ht => repeat (first | exact Tl4.base | apply Tl4.cons)); (case hn => walk_at "off4"); (case pre => trivial); (case hd => ktr_room); (case hu => ktr_units))
  intro v9 new9 y9 h9 tk9 F9 N9 ok9 ap9 ⟨l9, vs9, k9, e1, e2, hI9⟩
  subst e1 e2
  obtain ⟨s9, a9, b9, c9, d9⟩ := ap9
  simp only [List.nil_append, List.cons_append, TS.led, AllNe, AllSep, and_true] at N9 s9 a9 b9 c9 d9
  try dsimp only
  k_steps
  unfold Held
  rename_i t0 _ lq _ l1 _ D5 h5 F5 N5 l5
  k_dflt (refine' rev_inv (σ := List Value × List Int × Int × Tok × Nat) (vs := vs9) (ns := digs (Builtin.Int.intBits b0) a0) (ax := l9) (k := k9) (fun c => [(lq, listOf (List.toArray c.1) c.2.2.2.2), (l9, listOf (List.toArray vs9) k9), (30, tabObj y9.ps), (37, tabObj y9.qs), (y9.c1, y9.o1), (y9.c2, y9.o2)]) (fun c => [(Str.ofString "r", .int c.2.2.1 c.2.2.2.1)]) [Str.ofString "q_digit"] (fun pre c => IntsAre c.1 c.2.1 ∧ DP (Builtin.Int.intBits b0) b0 pre c.2.1 c.2.2.1) ([], [], 0, t0, 0) rfl F5 N5 ?ho ?hlp hI9 ?hk ?hp ?turn ?done; (case ho => k_all); (case hlp => (intro c; k_mem)); (case hk => exact List.forall_mem_singleton.mpr rfl); (case hp => exact ⟨.nil, DP.nil hb⟩))
  case turn =>
    intro c pre post d t u it h tk hns hP ho hc F N
    obtain ⟨vsq, qs, r, tr, kq⟩ := c
    obtain ⟨hiq, hD⟩ := hP
    dsimp only at hiq hD ho F N
    have hd := dg_bound (n := Builtin.Int.intBits b0) (k := dlen a0 (Builtin.Int.intBits b0)) (x := a0) (d := d) (List.mem_reverse.mp (by rw [hns]; exact List.mem_append_right _ (.head _)))
    have hb3 : b0 < 2 ^ Builtin.Int.intBits b0 := lt_bits (Int.le_of_lt hb)
    clear N5 F5
    with_reducible show wpAny _ _ _ _ _ _
    k_fold
    have hlen9 := congrArg List.length hns
    have hsz : (List.toArray vsq).size ≤ sizeLine := by
      rw [List.size_toArray, hiq.length, hD.len, sizeLine_eq]
      rw [List.length_reverse, dg_len] at hlen9
      have q9 := dlen_le (a := a0) hbp
      have q8 := bits_of (k := 40) ha ha2
      simp only [List.length_append] at hlen9
      omega
    have hpow : ((Builtin.Int.intBits b0 : Int)).toNat = Builtin.Int.intBits b0 := Int.toNat_natCast _
    have hroom := hD.room (d := d) hb3
    have hbits := hD.bits hb3 hd.1 hd.2
    k_steps
    unfold Held
    rw [hpow]
    k_dflt (walk_at "enter_k")
    k_steps
    rename News _ _ _ _ => N7
    rename Fr _ _ _ _ => F7
    simp only [List.push_toArray] at N7
    have hD2 := hD.step hd.1 hd.2 hb
    k_dflt (refine' ⟨(_, qs ++ [(r * 2 ^ Builtin.Int.intBits b0 + d).fdiv b0], (r * 2 ^ Builtin.Int.intBits b0 + d).fmod b0, _, _), _, _, _, _, rfl, F7, N7, ?hn, ?ho, ?hk, ?hs, ?hP⟩; (case hn => kst_in); (case ho => k_all); (case hk => kst_all))
    case hs => intro z hz1 hz2 hz3; simp only [List.forall_mem_cons, List.not_mem_nil, false_implies, implies_true, and_true, ne_eq] at hz2; simp only [List.contains_cons, List.contains_nil, Bool.or_false, Bool.or_eq_false_iff, beq_eq_false_iff_ne, ne_eq] at hz3; simp [kstB, hz1, hz2, hz3]; done
    case hP => exact ⟨IntsAre.append hiq (.cons _ _ .nil), hD2⟩
  case done =>
    intro c u h tk hP F N
    obtain ⟨vsq, qs, r, tr, kq⟩ := c
    obtain ⟨hiq, hD⟩ := hP
    dsimp only at hiq hD F N
    clear N5 F5
    have hfin := hD.fin (digs_dv hbp ha) hb
    have hql : qs.length ≤ 40 := by
      rw [hD.len, List.length_reverse, dg_len]
      have q9 := dlen_le (a := a0) hbp
      have q8 := bits_of (k := 40) ha ha2
      omega
    have hsz : (List.toArray vsq).toList.length ≤ sizeLine := by
      show vsq.length ≤ sizeLine
      rw [hiq.length, sizeLine_eq]
      omega
    k_steps
    unfold Held
    k_dflt (refine' ctr_use (c42 (n := Builtin.Int.intBits b0) (vs := vsq.reverse) (ns := qs.reverse) C2 (ints_rev hiq) (by rw [List.length_reverse]; omega) (by omega) (fun q hq => hD.bnd q (List.mem_reverse.mp hq))) ?B ?F ?X ?N ?ht ?T ?hk ?ok ?hn ?pre ?hd ?hu ?_; (case B => k_asm); (case F => k_asm); (case X => k_asm); (case N => k_asm); (case T => k_asm); (case hk => exact rfl); (case ok => assumption); (case ht => repeat (first | exact Tl4.base | apply Tl4.cons)); (case hn => walk_at "off4"); (case pre => exact ⟨_, by k_mem⟩); (case hd => ktr_room); (case hu => ktr_units))
    intro v8 new8 y8 h8 tk8 F8 N8 ok8 ap8 ⟨e8, t8, e9⟩
    subst e8 e9
    rw [hfin.1]
    obtain ⟨s8, a8, b8, c8, d8⟩ := ap8
    simp only [List.nil_append, List.cons_append, TS.led, AllNe, AllSep, and_true] at N8 s8 a8 b8 c8 d8
    try dsimp only
    k_steps
    have hr := hfin.2
    subst hr
    rename News _ _ _ _ => N7
    rename Fr _ _ _ _ => F7
    obtain ⟨FF, NF, AP⟩ := ctr_fin [(_, tp [.int (a0 / b0) _, .int (a0 % b0) _])] y8 F NN ok hn KG' SG' F7 N7 (by kst_in) rfl ok8
    exact ret _ _ _ _ _ FF NF ok8 AP ⟨_, _, _, rfl, rfl⟩
end
-- part V2
section
local macro_rules | `(tactic| walk_at "call ref") => `(tactic| (k_here; refine Held.out ?_))
theorem c56 {prog : Program} {w : World} {p : Program} {loose : List Str} {mean : ExcName → Option Value} {mg mb : Str → Option Value} {base : Heap} {a0 b0 : Int} {ta tb : Tok}
    (C1 : CodeHd base 34 30) (C2 : CodeHd base 41 37) (ha : 0 ≤ a0) (ha2 : a0 < 2 ^ 40) (hb : 0 < b0) (hb2 : b0 < 1073741824) :
    Ctr prog w p loose mean mg mb base 56 [.int a0 ta, .int b0 tb] 170 (fun own => True) (fun v new => ∃ l t1 t2, v = .ref l ∧ new = [(l, tp [.int (a0 / b0) t1, .int (a0 % b0) t2])]) := by
  intro dp un gd cn cs a ccd cl outer A₀ h₀ L m s Q E own x B F X NN T hk ok hn hpre hd hu ret
  have N : News h₀ L s.heap [(30, tabObj x.ps), (37, tabObj x.qs), (x.c1, x.o1), (x.c2, x.o2)] := fun q hq => NN q (List.mem_append_right _ hq)
  walk_at "enter_d"
  clear X T B N
  k_steps
  · exfalso; omega
  · unfold Held
    k_dflt (refine' ctr_use (c49 C1 C2 ha ha2 hb hb2) ?B ?F ?X ?N ?ht ?T ?hk ?ok ?hn ?pre ?hd ?hu ?_; (case B => k_asm); (case F => k_asm); (case X => k_asm); (case N => k_asm); (case T => k_asm); (case hk => exact rfl); (case ok => assumption); (case ht => repeat (first | exact Tl4.base | apply Tl4.cons)); (case hn => walk_at "off4"); (case pre => trivial); (case hd => ktr_room); (case hu => ktr_units))
    intro v9 new9 y9 h9 tk9 F9 N9 ok9 ap9 ⟨l9, t1, t2, e1, e2⟩
    subst e1 e2
    obtain ⟨s9, a9, b9, c9, d9⟩ := ap9
    simp only [List.nil_append, List.cons_append, TS.led, AllNe, AllSep, and_true] at N9 s9 a9 b9 c9 d9
    try dsimp only
    k_steps
    rename News _ _ _ _ => N7
    rename Fr _ _ _ _ => F7
    obtain ⟨FF, NF, AP⟩ := ctr_fin [(_, tp [.int (a0 / b0) _, .int (a0 % b0) _])] y9 F NN ok hn KG' SG' F7 N7 (by kst_in) rfl ok9
    exact ret _ _ _ _ _ FF NF ok9 AP ⟨_, _, _, rfl, rfl⟩

local macro_rules | `(tactic| walk_at "call ref") => `(tactic| (k_here; k_dflt (walk_at "enter_k")))
local macro_rules | `(tactic| walk_at "eval Dict nil nil") => `(tactic| (k_here; k_dflt (refine' newDictE ?k1 ?k2 (TopRead.nolimit (by k_asm)) ?_; (case k1 => k_asm); (case k2 => k_asm); k_whole); intro d' h' F' N' l1 lo'; (try k_lt l1); (try k_sweep)))
theorem c63 {prog : Program} {w : World} {p : Program} {loose : List Str} {mean : ExcName → Option Value} {mg mb : Str → Option Value} {base : Heap} {t1 t2 d1 d2 : Addr} {a1 a2 a3 a4 b1 b2 b3 b4 : Int} {u1 u2 u3 u4 v1 v2 v3 v4 : Tok}
    (lo1 : (d1 == sysModules) = false) (lo2 : (d2 == sysModules) = false) :
    Ctr prog w p loose mean mg mb base 63 [.ref t1, .ref t2] 30 (fun own => (t1, tp [.int a1 u1, .int a2 u2, .int a3 u3, .int a4 u4, .ref d1]) ∈ own ∧ (t2, tp [.int b1 v1, .int b2 v2, .int b3 v3, .int b4 v4, .ref d2]) ∈ own ∧ (d1, eD) ∈ own ∧ (d2, eD) ∈ own)
      (fun v new => ∃ l d w1 w2 w3 w4, v = .ref l ∧ new = [(l, tp [.int (b1 + a1) w1, .int (b2 + a2) w2, .int (b3 + a3) w3, .int (b4 + a4) w4, .ref d]), (d, eD)] ∧ (d == sysModules) = false) := by
  intro dp un gd cn cs a ccd cl outer A₀ h₀ L m s Q E own x B F X NN T hk ok hn hpre hd hu ret
  obtain ⟨p1, p2, p3, p4⟩ := hpre
  have eS : eD.IsDictOf (strKind prog w) [] := eD_str s.heap
  have eI : eD.IsDictOf (intKind prog w) [] := eD_int s.heap
  have fS : PyProof.V.FlatPairs PyData.str [] [] := .nil
  have fI : PyProof.V.FlatPairs PyData.int [] [] := .nil
  have N : News h₀ L s.heap [(30, tabObj x.ps), (37, tabObj x.qs), (x.c1, x.o1), (x.c2, x.o2), (t1, tp [.int a1 u1, .int a2 u2, .int a3 u3, .int a4 u4, .ref d1]), (t2, tp [.int b1 v1, .int b2 v2, .int b3 v3, .int b4 v4, .ref d2]), (d1, eD), (d2, eD)] := by
    refine fun q hq => NN q ?_
    rcases List.mem_append.mp (show q ∈ x.led ++ [(t1, tp [.int a1 u1, .int a2 u2, .int a3 u3, .int a4 u4, .ref d1]), (t2, tp [.int b1 v1, .int b2 v2, .int b3 v3, .int b4 v4, .ref d2]), (d1, eD), (d2, eD)] from hq) with hq | hq
    · exact List.mem_append_right _ hq
    · refine List.mem_append_left _ ?_
      simp only [List.mem_cons, List.not_mem_nil, or_false] at hq
      rcases hq with rfl | rfl | rfl | rfl <;> assumption
  walk_at "enter_d"
  clear X T B N
  k_steps
  rename News _ _ _ _ => N7
  rename Fr _ _ _ _ => F7
  obtain ⟨FF, NF, AP⟩ := ctr_finx [(t1, tp [.int a1 u1, .int a2 u2, .int a3 u3, .int a4 u4, .ref d1]), (t2, tp [.int b1 v1, .int b2 v2, .int b3 v3, .int b4 v4, .ref d2]), (d1, eD), (d2, eD)] [(_, tp [.int (b1 + a1) _, .int (b2 + a2) _, .int (b3 + a3) _, .int (b4 + a4) _, .ref _]), (_, eD)] x F NN ok hn (by simp only [List.forall_mem_cons, List.not_mem_nil, false_implies, implies_true, and_true]; exact ⟨p1, p2, p3, p4⟩) KG' SG' F7 N7 (by kst_in) (by simp only [List.forall_mem_cons, List.not_mem_nil, false_implies, implies_true, and_true]; refine ⟨⟨?_, ?_, ?_, ?_⟩, ?_, ?_, ?_, ?_⟩ <;> k_ne) rfl rfl ok
  exact ret _ _ _ _ _ FF NF ok AP ⟨_, _, _, _, _, _, rfl, rfl, by assumption⟩
end
-- part L8
theorem range_small {b : Int} (h : -1 ≤ b) (h2 : b ≤ 7) : Builtin.Range.small 0 b 2 = true := by
  have : b = -1 ∨ b = 0 ∨ b = 1 ∨ b = 2 ∨ b = 3 ∨ b = 4 ∨ b = 5 ∨ b = 6 ∨ b = 7 := by omega
  rcases this with rfl | rfl | rfl | rfl | rfl | rfl | rfl | rfl | rfl <;> decide
theorem range_n {b : Int} (h : -1 ≤ b) (h2 : b ≤ 7) : ∃ n : Nat, Builtin.Range.rangeSize 0 b 2 = (n : Int) ∧ ∀ i : Nat, i < n → 2 * (i : Int) < b := by
  have : b = -1 ∨ b = 0 ∨ b = 1 ∨ b = 2 ∨ b = 3 ∨ b = 4 ∨ b = 5 ∨ b = 6 ∨ b = 7 := by omega
  rcases this with rfl | rfl | rfl | rfl | rfl | rfl | rfl | rfl | rfl
  · exact ⟨0, by decide, fun i hi => by omega⟩
  · exact ⟨0, by decide, fun i hi => by omega⟩
  · exact ⟨1, by decide, fun i hi => by omega⟩
  · exact ⟨1, by decide, fun i hi => by omega⟩
  · exact ⟨2, by decide, fun i hi => by omega⟩
  · exact ⟨2, by decide, fun i hi => by omega⟩
  · exact ⟨3, by decide, fun i hi => by omega⟩
  · exact ⟨3, by decide, fun i hi => by omega⟩
  · exact ⟨4, by decide, fun i hi => by omega⟩
theorem off3_ne {I C D : Addr} : ∀ {l : List (Addr × Obj)}, LCg.Off3 I C D l → AllNe I l ∧ AllNe C l ∧ AllNe D l
  | [], _ => ⟨trivial, trivial, trivial⟩
  | _ :: _, h => let ⟨a, b, c⟩ := off3_ne h.2; ⟨⟨h.1.1, a⟩, ⟨h.1.2.1, b⟩, ⟨h.1.2.2, c⟩⟩
theorem offs_ne {I C D : Addr} {l : List (Addr × Obj)} (o : LCg.Off3 I C D l) (h : (@Ne Nat I C) ∧ (@Ne Nat I D) ∧ (@Ne Nat C D)) : AllNe I ((C, eD) :: (D, eD) :: l) ∧ AllNe C ((D, eD) :: l) ∧ AllNe D l :=
  let ⟨a, b, c⟩ := off3_ne o
  ⟨⟨Ne.symm h.1, Ne.symm h.2.1, a⟩, ⟨Ne.symm h.2.2, b⟩, c⟩
theorem off1_ne {D : Addr} : ∀ {l : List (Addr × Obj)}, LCg.Off1 D l → AllNe D l
  | [], _ => trivial
  | _ :: _, h => ⟨h.1, off1_ne h.2⟩
local macro_rules | `(tactic| walk_at "exec Assign cons ListComp") => `(tactic| (k_here; k_dflt (refine LCg.Assign_ListComp_U (F₀ := by k_asm) (by rfl) (by with_unfolding_all rfl) (by with_unfolding_all rfl) (by decide) (by rfl) (by decide) (by rfl) (by rfl) (by rfl) ?_); k_dflt lcg_toSrc))
local macro_rules | `(tactic| walk_at "CompSrc") => `(tactic| (k_here; k_dflt (refine LCg.CompSrc.ledger (by rfl) (by k_asm) (by k_asm) (by k_mem) (by first | size_fits | exact Nat.le_of_ble_eq_true rfl) ?_; intro g'; lcg_lit)))
local macro_rules | `(tactic| walk_at "CompRest") => `(tactic| (with_unfolding_all first
  | (refine LCg.CompRest.succ ?_; intro v' I' oI' C' oC' D' m' h' tk' E' hv' hC' hx' F' N' off' ne'; lcg_open hv'; (obtain ⟨oa', ob', oc'⟩ := offs_ne off' ne'); clear off' ne')
  | refine LCg.CompRest.zero ?_))
local macro_rules | `(tactic| walk_at "FinE") => `(tactic| ((unfold LCg.FinE); intro D' h' tk' F' N' o1'; (replace o1' := off1_ne o1'); (try simp only [List.nil_append, List.cons_append] at N'); (try dsimp only)))
local macro_rules | `(tactic| walk_at "FinA") => `(tactic| ((unfold LCg.FinA); intro D' h' tk' F' N' o1'; (replace o1' := off1_ne o1'); (try simp only [List.nil_append, List.cons_append] at N'); (try dsimp only)))
-- part L10
section
/-- how many noughts at the low end -/
def tzl : List Int → Nat
  | [] => 0
  | x :: r => if x = 0 then tzl r + 1 else 0
abbrev tz (n : Int) : Nat := tzl (digs 1 n)
theorem tzl_le : ∀ l : List Int, tzl l ≤ l.length
  | [] => Nat.le_refl _
  | x :: r => by unfold tzl; split <;> simp only [List.length_cons] <;> (have := tzl_le r; omega)
/-- where the loop of _law_struck stands: the first k are nought -/
theorem tzl_step : ∀ (l : List Int) (k : Nat), k ≤ tzl l → (∀ x, l[k]? = some x → (x = 0 ↔ k < tzl l))
  | [], k, _, x, h => by simp at h
  | y :: r, 0, _, x, h => by
    simp at h
    subst h
    unfold tzl
    split
    · rename_i h; simp [h]
    · rename_i h; simp [h]
  | y :: r, k + 1, hk, x, h => by
    unfold tzl at hk ⊢
    split at hk
    · rename_i h0
      simp only [h0, if_true] at hk ⊢
      have := tzl_step r k (by omega) x (by simpa using h)
      rw [this]; omega
    · omega
theorem dv_drop_tzl : ∀ l : List Int, dv 1 l = 2 ^ tzl l * dv 1 (l.drop (tzl l))
  | [] => by simp [tzl, dv]
  | x :: r => by
    unfold tzl
    split
    · rename_i h
      rw [List.drop_succ_cons, Int.pow_succ]
      simp only [dv, h, Int.zero_add]
      rw [dv_drop_tzl r, Int.mul_comm (2 ^ tzl r) 2, Int.mul_assoc]
      rfl
    · simp
theorem tzl_lt : ∀ {l : List Int}, (∀ x ∈ l, 0 ≤ x ∧ x < 2 ^ 1) → 0 < dv 1 l → tzl l < l.length ∧ dv 1 (l.drop (tzl l)) % 2 = 1
  | [], _, h => by simp [dv] at h
  | x :: r, hb, h => by
    have hx := hb x (.head _)
    have hr : ∀ y ∈ r, 0 ≤ y ∧ y < 2 ^ 1 := fun y hy => hb y (.tail _ hy)
    have h2 : (2 : Int) ^ 1 = 2 := rfl
    unfold tzl
    split
    · rename_i h0
      have : 0 < dv 1 r := by simp only [dv, h0, h2] at h; omega
      have q := tzl_lt hr this
      rw [List.drop_succ_cons, List.length_cons]
      exact ⟨by omega, q.2⟩
    · rename_i h0
      refine ⟨by simp, ?_⟩
      rw [List.drop_zero]
      simp only [dv, h2] at hx ⊢
      omega
/-- the odd part -/
abbrev od (n : Int) : Int := dv 1 ((digs 1 n).drop (tz n))
theorem od_spec {n : Int} (h : 0 < n) : n = 2 ^ tz n * od n ∧ od n % 2 = 1 ∧ 0 < od n ∧ tz n < (digs 1 n).length := by
  have hv : dv 1 (digs 1 n) = n := digs_dv (by decide) (by omega)
  have hb : ∀ x ∈ digs 1 n, 0 ≤ x ∧ x < 2 ^ 1 := fun x hx => dg_bound hx
  have q := tzl_lt hb (by rw [hv]; exact h)
  have e := dv_drop_tzl (digs 1 n)
  rw [hv] at e
  have nn := (dv_bound (n := 1) (l := (digs 1 n).drop (tz n)) fun x hx => hb x (List.mem_of_mem_drop hx)).1
  refine ⟨e, q.2, ?_, q.1⟩
  have q2 := q.2
  have nn2 : 0 ≤ dv 1 ((digs 1 n).drop (tzl (digs 1 n))) := nn
  show 0 < dv 1 ((digs 1 n).drop (tzl (digs 1 n)))
  omega
end
-- part L11
section
/-- Stein's takings: the odd number that both come to, and how many takings -/
def sr : Nat → Int → Int → Int
  | 0, x, _ => x
  | f + 1, x, y => if x = y then x else sr f (min x y) (od (max x y - min x y))
def sn : Nat → Int → Int → Int
  | 0, _, _ => 0
  | f + 1, x, y => if x = y then 0 else 1 + sn f (min x y) (od (max x y - min x y))
theorem sr_eq : ∀ (f : Nat) (x : Int), sr f x x = x
  | 0, _ => rfl
  | _ + 1, _ => by rw [sr, if_pos rfl]
theorem sn_eq : ∀ (f : Nat) (x : Int), sn f x x = 0
  | 0, _ => rfl
  | _ + 1, _ => by rw [sn, if_pos rfl]
theorem sn_symm (f : Nat) (x y : Int) : sn f x y = sn f y x := by
  cases f with
  | zero => rfl
  | succ f =>
    rw [sn, sn, Int.min_comm x y, Int.max_comm x y]
    by_cases h : x = y
    · rw [if_pos h, if_pos h.symm]
    · rw [if_neg h, if_neg fun e => h e.symm]
theorem od_le_half {n : Int} (h : 0 < n) (he : n % 2 = 0) : 2 * od n ≤ n := by
  obtain ⟨e, h1, h2, _⟩ := od_spec h
  have hz : tz n ≠ 0 := fun q => by
    rw [q, Int.pow_zero, Int.one_mul] at e
    omega
  obtain ⟨k, hk⟩ := Nat.exists_eq_succ_of_ne_zero hz
  rw [hk, Int.pow_succ] at e
  have p : 1 ≤ (2 : Int) ^ k := by have := two_pos k; omega
  have q : 1 * (2 * od n) ≤ 2 ^ k * (2 * od n) := Int.mul_le_mul_of_nonneg_right p (by omega)
  rw [Int.mul_assoc] at e
  omega
theorem od_le {n : Int} (h : 0 < n) : od n ≤ n := by
  obtain ⟨e, h1, h2, _⟩ := od_spec h
  have p : 1 ≤ (2 : Int) ^ tz n := by have := two_pos (tz n); omega
  have q : 1 * od n ≤ 2 ^ tz n * od n := Int.mul_le_mul_of_nonneg_right p (by omega)
  omega
structure Odd2 (x y : Int) : Prop where
  x0 : 0 < x
  y0 : 0 < y
  x1 : x % 2 = 1
  y1 : y % 2 = 1
theorem Odd2.step {x y : Int} (h : Odd2 x y) (hne : x ≠ y) : Odd2 (min x y) (od (max x y - min x y)) ∧ 0 < max x y - min x y ∧ max x y - min x y < max x y ∧ 2 * (min x y * od (max x y - min x y)) ≤ x * y := by
  obtain ⟨x0, y0, x1, y1⟩ := h
  have key : ∀ a b : Int, 0 < a → a < b → a % 2 = 1 → b % 2 = 1 → Odd2 a (od (b - a)) ∧ 0 < b - a ∧ b - a < b ∧ 2 * (a * od (b - a)) ≤ a * b := fun a b ha hab ha1 hb1 => by
    have hd : 0 < b - a := by omega
    obtain ⟨_, q1, q2, _⟩ := od_spec hd
    have q3 := od_le_half hd (by omega)
    refine ⟨⟨ha, q2, ha1, q1⟩, hd, by omega, ?_⟩
    have : a * (2 * od (b - a)) ≤ a * b := Int.mul_le_mul_of_nonneg_left (by omega) (by omega)
    rw [Int.mul_left_comm] at this
    exact this
  rcases Int.lt_or_gt_of_ne hne with q | q
  · rw [Int.min_eq_left (by omega), Int.max_eq_right (by omega)]
    exact key x y x0 q x1 y1
  · rw [Int.min_eq_right (by omega), Int.max_eq_left (by omega), Int.mul_comm x y]
    exact key y x y0 q y1 x1
theorem sn_bound : ∀ (f : Nat) {x y : Int}, Odd2 x y → 0 ≤ sn f x y ∧ (2 : Int) ^ (sn f x y).toNat ≤ x * y
  | 0, x, y, h => by
    refine ⟨Int.le_refl _, ?_⟩
    have := Int.mul_pos h.x0 h.y0
    show (1 : Int) ≤ x * y
    omega
  | f + 1, x, y, h => by
    rw [sn]
    by_cases e : x = y
    · rw [if_pos e]
      have := Int.mul_pos h.x0 h.y0
      exact ⟨Int.le_refl _, (show (1 : Int) ≤ x * y by omega)⟩
    · rw [if_neg e]
      obtain ⟨h1, h2, h3, h4⟩ := h.step e
      obtain ⟨q1, q2⟩ := sn_bound f h1
      refine ⟨by omega, ?_⟩
      rw [show (1 + sn f (min x y) (od (max x y - min x y))).toNat = (sn f (min x y) (od (max x y - min x y))).toNat + 1 by omega, Int.pow_succ]
      omega
theorem cop_two {x : Int} (hx : x % 2 = 1) (k : Nat) : Nat.Coprime (2 ^ k) x.natAbs := by
  refine Nat.Coprime.pow_left k ?_
  show Nat.gcd 2 x.natAbs = 1
  rw [Nat.gcd_rec, show x.natAbs % 2 = 1 by omega]
  exact Nat.gcd_one_left _
theorem gcd_odd {x n : Int} (hx : x % 2 = 1) (hn : 0 < n) : Int.gcd x (od n) = Int.gcd x n := by
  obtain ⟨e, _, _, _⟩ := od_spec hn
  have c := cop_two hx (tz n)
  show Nat.gcd x.natAbs (od n).natAbs = Nat.gcd x.natAbs n.natAbs
  have en : n.natAbs = 2 ^ tz n * (od n).natAbs := by
    have := congrArg Int.natAbs e
    rw [Int.natAbs_mul, Int.natAbs_pow] at this
    exact this
  rw [en, Nat.Coprime.gcd_mul_left_cancel_right _ c]
theorem sr_gcd : ∀ (f : Nat) {x y : Int}, Odd2 x y → x * y < 2 ^ f → sr f x y = (Int.gcd x y : Int)
  | 0, x, y, h, hl => by
    have := Int.mul_pos h.x0 h.y0
    rw [Int.pow_zero] at hl
    omega
  | f + 1, x, y, h, hl => by
    rw [sr]
    by_cases e : x = y
    · rw [if_pos e, ← e, Int.gcd_self]
      have := h.x0
      omega
    · rw [if_neg e]
      obtain ⟨h1, h2, h3, h4⟩ := h.step e
      rw [Int.pow_succ] at hl
      rw [sr_gcd f h1 (by omega), gcd_odd h1.x1 h2, Int.gcd_sub_self_right]
      rcases Int.lt_or_gt_of_ne e with q | q
      · rw [Int.min_eq_left (by omega), Int.max_eq_right (by omega)]
      · rw [Int.min_eq_right (by omega), Int.max_eq_left (by omega), Int.gcd_comm]
/-- Stein's answer is the greatest common divisor -/
theorem gcd_parts {a b : Int} (ha : 0 < a) (hb : 0 < b) : (Int.gcd a b : Int) = (Int.gcd (od a) (od b) : Int) * 2 ^ min (tz a) (tz b) := by
  have key : ∀ {a b : Int}, 0 < a → 0 < b → tz a ≤ tz b → (Int.gcd a b : Int) = (Int.gcd (od a) (od b) : Int) * 2 ^ tz a := fun {a b} ha hb hle => by
    obtain ⟨e1, o1, p1, _⟩ := od_spec ha
    obtain ⟨e2, o2, p2, _⟩ := od_spec hb
    have e3 : b = 2 ^ tz a * (2 ^ (tz b - tz a) * od b) := by rw [← Int.mul_assoc, ← Int.pow_add, show tz a + (tz b - tz a) = tz b by omega]; exact e2
    have g : Int.gcd a b = Int.gcd (2 ^ tz a * od a) (2 ^ tz a * (2 ^ (tz b - tz a) * od b)) := by rw [← e1, ← e3]
    rw [g, Int.gcd_mul_left, Int.natAbs_pow]
    have c : Int.gcd (od a) (2 ^ (tz b - tz a) * od b) = Int.gcd (od a) (od b) := by
      show Nat.gcd (od a).natAbs (2 ^ (tz b - tz a) * od b).natAbs = Nat.gcd (od a).natAbs (od b).natAbs
      rw [Int.natAbs_mul, Int.natAbs_pow]
      exact Nat.Coprime.gcd_mul_left_cancel_right _ (cop_two o1 _)
    rw [c, Int.natCast_mul, Int.natCast_pow, Int.mul_comm]
    rfl
  rcases Nat.le_total (tz a) (tz b) with q | q
  · rw [Nat.min_eq_left q]; exact key ha hb q
  · rw [Nat.min_eq_right q, Int.gcd_comm, Int.gcd_comm (od a)]; exact key hb ha q
theorem gcd_rest (a b : Int) : Int.gcd b (a % b) = Int.gcd a b := by
  rw [Int.emod_def, Int.gcd_comm a b]
  exact Int.gcd_sub_right_right_of_dvd _ (Int.dvd_mul_right _ _)
/-- how many takings for a and b -/
abbrev stp (a b : Int) : Int := sn 99 (od a) (od b)
theorem odd2 {a b : Int} (ha : 0 < a) (hb : 0 < b) : Odd2 (od a) (od b) :=
  let ⟨_, o1, p1, _⟩ := od_spec ha
  let ⟨_, o2, p2, _⟩ := od_spec hb
  ⟨p1, p2, o1, o2⟩
theorem stein_gcd {a b : Int} (ha : 0 < a) (hb : 0 < b) (ha2 : a < 2 ^ 32) (hb2 : b < 2 ^ 32) : sr 99 (od a) (od b) * 2 ^ min (tz a) (tz b) = (Int.gcd a b : Int) := by
  rw [gcd_parts ha hb, sr_gcd 99 (odd2 ha hb)]
  have h1 := od_le ha
  have h2 := od_le hb
  have o := odd2 ha hb
  have q : od a * od b ≤ 2 ^ 32 * 2 ^ 32 := Int.mul_le_mul (by omega) (by omega) (by have := o.y0; omega) (by decide)
  exact Int.lt_of_le_of_lt q (by decide)
theorem stp_symm (a b : Int) : stp a b = stp b a := sn_symm _ _ _
theorem stp_self (a : Int) : stp a a = 0 := sn_eq _ _
theorem stp_le {a b : Int} (ha : 0 < a) (hb : 0 < b) : 0 ≤ stp a b ∧ stp a b ≤ ((digs 1 a).length : Int) + ((digs 1 b).length : Int) := by
  obtain ⟨q1, q2⟩ := sn_bound 99 (odd2 ha hb)
  refine ⟨q1, ?_⟩
  have h1 := od_le ha
  have h2 := od_le hb
  have o := odd2 ha hb
  have l1 : a < 2 ^ (digs 1 a).length := by rw [dg_len, dlen_one]; exact lt_bits (Int.le_of_lt ha)
  have l2 : b < 2 ^ (digs 1 b).length := by rw [dg_len, dlen_one]; exact lt_bits (Int.le_of_lt hb)
  have q : od a * od b ≤ 2 ^ (digs 1 a).length * 2 ^ (digs 1 b).length := Int.mul_le_mul (by omega) (by omega) (by have := o.y0; omega) (by have := two_pos (digs 1 a).length; omega)
  rw [← Int.pow_add] at q
  rcases Nat.lt_or_ge ((digs 1 a).length + (digs 1 b).length) (stp a b).toNat with r | r
  · exfalso
    have : (2 : Int) ^ ((digs 1 a).length + (digs 1 b).length) < 2 ^ (stp a b).toNat := by
      have := Nat.pow_lt_pow_right (a := 2) (by decide) r
      exact_mod_cast this
    have e : (2 : Int) ^ (stp a b).toNat ≤ od a * od b := q2
    omega
  · omega
theorem gcd_double (a b : Int) : (Int.gcd (2 * a) (2 * b) : Int) = 2 * (Int.gcd a b : Int) := by
  rw [Int.gcd_mul_left]; rfl
theorem gcd_le {a : Int} (b : Int) (h : 0 < a) : 0 < (Int.gcd a b : Int) ∧ (Int.gcd a b : Int) ≤ a := by
  have := Int.gcd_pos_of_ne_zero_left b (show a ≠ 0 by omega)
  exact ⟨by omega, Int.le_of_dvd h (Int.gcd_dvd_left a b)⟩
theorem gcd_rests (a b : Int) : a % (Int.gcd a b : Int) = 0 ∧ b % (Int.gcd a b : Int) = 0 :=
  ⟨Int.emod_eq_zero_of_dvd (Int.gcd_dvd_left a b), Int.emod_eq_zero_of_dvd (Int.gcd_dvd_right a b)⟩
theorem gcd_shares {a b : Int} (h : 0 < a) : (Int.gcd (a / (Int.gcd a b : Int)) (b / (Int.gcd a b : Int)) : Int) = 1 := by
  rw [Int.gcd_ediv_gcd_ediv_gcd (Int.gcd_pos_of_ne_zero_left b (by omega))]; rfl
theorem part_pos {a b g : Int} (h : 0 < a) (hg : 0 < g) (hd : a % g = 0) : 0 < a / g ∧ a / g ≤ a := by
  have e := Int.mul_ediv_add_emod a g
  have p : 0 ≤ a / g := Int.ediv_nonneg (by omega) (by omega)
  refine ⟨?_, Int.ediv_le_self g (by omega)⟩
  rcases Int.lt_or_eq_of_le p with q | q
  · exact q
  · rw [← q, Int.mul_zero] at e; omega
theorem stp_small {a b : Int} (ha : 0 < a) (hb : 0 < b) (ha2 : a < 2 ^ 32) (hb2 : b < 2 ^ 32) : stp a b ≤ 64 := by
  have q := (stp_le ha hb).2
  rw [dg_len, dg_len, dlen_one, dlen_one] at q
  have q1 := bits_of (k := 32) (Int.le_of_lt ha) ha2
  have q2 := bits_of (k := 32) (Int.le_of_lt hb) hb2
  omega
theorem tz_small {a : Int} (ha : 0 < a) (ha2 : a < 2 ^ 32) : (tz a : Int) ≤ 31 := by
  obtain ⟨_, _, _, q⟩ := od_spec ha
  rw [dg_len, dlen_one] at q
  have q1 := bits_of (k := 32) (Int.le_of_lt ha) ha2
  omega
theorem min_ite (x y : Int) : (if y < x then y else x) = min x y := by
  split
  · rw [Int.min_eq_right (by omega)]
  · rw [Int.min_eq_left (by omega)]
theorem max_ite (x y : Int) : (if y > x then y else x) = max x y := by
  split
  · rw [Int.max_eq_right (by omega)]
  · rw [Int.max_eq_left (by omega)]
/-- where Stein's loop stands -/
structure SI (a b : Int) (one other nc : Int) : Prop where
  o : Odd2 one other
  x2 : one < 2 ^ 32
  y2 : other < 2 ^ 32
  n0 : 0 ≤ nc
  n1 : nc ≤ 99
  hs : nc + sn (99 - nc).toNat one other = stp a b
  hr : sr (99 - nc).toNat one other = sr 99 (od a) (od b)
theorem SI.nil {a b : Int} (ha : 0 < a) (hb : 0 < b) (ha2 : a < 2 ^ 32) (hb2 : b < 2 ^ 32) : SI a b (od a) (od b) 0 :=
  ⟨odd2 ha hb, Int.lt_of_le_of_lt (od_le ha) ha2, Int.lt_of_le_of_lt (od_le hb) hb2, Int.le_refl _, by decide, Int.zero_add _, rfl⟩
theorem SI.le {a b one other nc : Int} (h : SI a b one other nc) (ha : 0 < a) (hb : 0 < b) (ha2 : a < 2 ^ 32) (hb2 : b < 2 ^ 32) : nc ≤ 64 := by
  have q := (sn_bound (99 - nc).toNat h.o).1
  have q2 := h.hs
  have q3 := stp_small ha hb ha2 hb2
  omega
theorem SI.gap {a b one other nc : Int} (h : SI a b one other nc) (hne : one ≠ other) : 0 < (if other > one then other else one) - (if other < one then other else one) ∧ (if other > one then other else one) - (if other < one then other else one) < 2 ^ 32 := by
  rw [min_ite, max_ite]
  obtain ⟨_, q1, q2, _⟩ := h.o.step hne
  have := h.x2
  have := h.y2
  omega
theorem SI.step {a b one other nc : Int} (h : SI a b one other nc) (hne : one ≠ other) (hl : nc < 99) :
    SI a b (if other < one then other else one) (od ((if other > one then other else one) - (if other < one then other else one))) (1 + nc) := by
  have g := h.gap hne
  have g3 := od_le g.1
  rw [min_ite, max_ite] at *
  obtain ⟨o, q1, q2, _⟩ := h.o.step hne
  have e : (99 - nc).toNat = (99 - (1 + nc)).toNat + 1 := by have := h.n0; omega
  refine ⟨o, ?_, by omega, by have := h.n0; omega, by omega, ?_, ?_⟩
  · have := h.x2; have := h.y2; omega
  · have q := h.hs
    rw [e, sn, if_neg hne] at q
    omega
  · have q := h.hr
    rw [e, sr, if_neg hne] at q
    exact q
theorem SI.fin {a b one nc : Int} (h : SI a b one one nc) (ha : 0 < a) (hb : 0 < b) (ha2 : a < 2 ^ 32) (hb2 : b < 2 ^ 32) :
    nc = stp a b ∧ one * 2 ^ (if (tz b : Int) < (tz a : Int) then (tz b : Int) else (tz a : Int)).toNat = (Int.gcd a b : Int) := by
  have q := h.hs
  have q2 := h.hr
  rw [sn_eq] at q
  rw [sr_eq] at q2
  refine ⟨by omega, ?_⟩
  rw [← stein_gcd ha hb ha2 hb2, ← q2]
  congr 2
  split <;> omega
end
-- part S1
section
local macro_rules | `(tactic| walk_at "call ref") => `(tactic| (k_here; refine Held.out ?_))
local macro_rules | `(tactic| walk_at "exec While BoolOp cons nil") => `(tactic| (k_here; refine Held.out ?_))
local macro_rules | `(tactic| walk_at "KswPost") => `(tactic| (dsimp only [KswPost]))
local macro_rules | `(tactic| walk_at "KswEnd") => `(tactic| (refine Held.out ?_))
local macro_rules | `(tactic| walk_at "subscriptTail Name Slice ref ref") => `(tactic| (k_here; refine Held.out ?_))
theorem c77 {prog : Program} {w : World} {p : Program} {loose : List Str} {mean : ExcName → Option Value} {mg mb : Str → Option Value} {base : Heap} {n : Int} {tn : Tok}
    (C1 : CodeHd base 34 30) (C2 : CodeHd base 41 37) (hn0 : 0 < n) (hn2 : n < 2 ^ 32) :
    Ctr prog w p loose mean mg mb base 77 [.int n tn] 170 (fun own => True) (fun v new => ∃ l t1 t2, v = .ref l ∧ new = [(l, tp [.int (od n) t1, .int (tz n : Int) t2])]) := by
  intro dp un gd cn cs a ccd cl outer A₀ h₀ L m s Q E own x B F X NN T hk ok hn hpre hd hu ret
  have N : News h₀ L s.heap [(30, tabObj x.ps), (37, tabObj x.qs), (x.c1, x.o1), (x.c2, x.o2)] := fun q hq => NN q (List.mem_append_right _ hq)
  walk_at "enter_d"
  clear X T B N
  have nb : Builtin.Int.intBits n ≤ 64 := Nat.le_trans (bits_of (k := 32) (Int.le_of_lt hn0) hn2) (by decide)
  k_steps
  unfold Held
  k_dflt (refine' ctr_use (c35 (a0 := n) (n := 1) C1 (Int.le_of_lt hn0) nb (by decide) (by decide)) ?B ?F ?X ?N ?ht ?T ?hk ?ok ?hn ?pre ?hd ?hu ?_; (case B => k_asm); (case F => k_asm); (case X => k_asm); (case N => k_asm); (case T => k_asm); (case hk => exact rfl); (case ok => assumption); (case ht => repeat (first | exact Tl4.base | apply Tl4.cons)); (case hn => walk_at "off4"); (case pre => trivial); (case hd => ktr_room); (case hu => ktr_units))
  intro v9 new9 y9 h9 tk9 F9 N9 ok9 ap9 ⟨l9, vs9, k9, e1, e2, hI9⟩
  subst e1 e2
  obtain ⟨sp9, pa9, pb9, pc9, pd9⟩ := ap9
  simp only [List.nil_append, List.cons_append, TS.led] at N9 sp9 pa9 pb9 pc9 pd9
  obtain ⟨sp9a, -⟩ := sp9
  try dsimp only at sp9a
  try dsimp only
  obtain ⟨d, hd2⟩ : ∃ d, digs 1 n = d := ⟨_, rfl⟩
  rw [hd2] at hI9
  have sp := od_spec hn0
  have hlt : tzl d < d.length := by rw [← hd2]; exact sp.2.2.2
  have hdl : d.length ≤ 32 := by rw [← hd2, dg_len, dlen_one]; exact bits_of (Int.le_of_lt hn0) hn2
  have sz : (List.toArray vs9).size = d.length := by rw [List.size_toArray, hI9.length]
  k_steps
  unfold Held
  rename Fr _ _ _ _ => F5
  rename News _ _ _ _ => N5
  k_dflt (refine' ksw_while (σ := Nat × Tok) (fun c => [(l9, listOf (List.toArray vs9) k9), (30, tabObj y9.ps), (37, tabObj y9.qs), (y9.c1, y9.o1), (y9.c2, y9.o2)]) (fun c => [(Str.ofString "many", .int (c.1 : Int) c.2)]) (fun c => True) [] (fun c => c.1 ≤ tzl d) (fun c => d.length - c.1) (0, _) F5 ?kn trivial ?kk (Nat.zero_le _) ?turn; (case kn => exact N5); (case kk => kst_all))
  case turn =>
    intro c u h tk _ hP F N
    obtain ⟨k, t⟩ := c
    dsimp only at hP F N
    clear N5 F5
    have hstep := tzl_step d k hP (d.getD k 0) (by rw [List.getD_eq_getElem?_getD, List.getElem?_eq_getElem (by omega)]; rfl)
    with_reducible show wpAny _ _ _ _ _ _
    k_fold
    k_steps
    · unfold Held
      rename d.getD _ _ = 0 => hz
      rename News _ _ _ _ => N7
      rename Fr _ _ _ _ => F7
      have hk9 : k < tzl d := hstep.mp hz
      k_dflt (refine' ksw_end ((k + 1, _) : Nat × Tok) F7 N7 ?hn trivial ?hk ?hr ?hp ?hm; (case hn => kst_in); (case hk => kst_all); (case hr => (intro z h2 h3; simp only [List.forall_mem_cons, List.not_mem_nil, false_implies, implies_true, and_true, ne_eq] at h2; simp [kstB, h2]; done)); (case hp => exact hk9); (case hm => (show d.length - (k + 1) < d.length - k; omega)))
    · rename d.getD _ _ ≠ 0 => hz
      have hke : k = tzl d := by
        rcases Nat.lt_or_ge k (tzl d) with q | q
        · exact absurd (hstep.mpr q) hz
        · omega
      unfold Held
      k_dflt (refine' kmk_slice_ints (ns := d) ?zF ?zN ?zl ?zp ?zq hI9 ?zm rfl ?_ ?zs ?zt ?zz; (case zF => k_asm); (case zN => k_asm); (case zl => exact News.isList (by k_asm) (by k_mem)); (case zp => kmk_part); (case zq => kmk_part); (case zm => exact kmk_from hI9 (Int.natCast_nonneg _)); (case zs => with_unfolding_all rfl); (case zt => kmk_pure); (case zz => (rw [sz, sizeLine_eq]; omega)))
      intro D8 ws8 h8 F8 N8 l8 hI8 hC8 hL8
      (try k_lt l8)
      try dsimp only
      rw [Int.toNat_natCast] at hI8
      k_steps
      unfold Held
      k_dflt (refine' ctr_use (c42 (n := 1) C2 hI8 ?hl (by decide) ?hb) ?B ?F ?X ?N ?ht ?T ?hk ?ok ?hn ?pre ?hd ?hu ?_; (case B => k_asm); (case F => k_asm); (case X => k_asm); (case N => k_asm); (case T => k_asm); (case hk => exact rfl); (case ok => assumption); (case ht => repeat (first | exact Tl4.base | apply Tl4.cons)); (case hn => walk_at "off4"); (case pre => exact ⟨_, by k_mem⟩); (case hl => (simp only [List.length_drop]; omega)); (case hb => (intro q hq; rw [← hd2] at hq; exact dg_bound (List.mem_of_mem_drop hq))); (case hd => ktr_room); (case hu => ktr_units))
      intro v7 new7 y7 h7 tk7 F7 N7 ok7 ap7 ⟨e1, t7, e2⟩
      subst e1 e2
      obtain ⟨sp7, pa7, pb7, pc7, pd7⟩ := ap7
      simp only [List.nil_append, List.cons_append, TS.led] at N7 sp7 pa7 pb7 pc7 pd7
      clear sp7
      try dsimp only
      k_steps
      rename News _ _ _ _ => N7
      rename Fr _ _ _ _ => F7
      have hod : dv 1 (List.drop k d) = od n := by rw [hke, ← hd2]
      have htz : (k : Int) = (tz n : Int) := by rw [hke, ← hd2]
      rw [hod, htz] at N7
      obtain ⟨FF, NF, AP⟩ := ctr_fin [(_, tp [.int (od n) _, .int (tz n : Int) _])] y7 F NN ok hn KG' SG' F7 N7 (by kst_in) rfl ok7
      exact ret _ _ _ _ _ FF NF ok7 AP ⟨_, _, _, rfl, rfl⟩
end
-- part S2
section
local macro_rules | `(tactic| walk_at "call ref") => `(tactic| (k_here; refine Held.out ?_))
local macro_rules | `(tactic| walk_at "exec While Compare cons nil") => `(tactic| (k_here; refine Held.out ?_))
local macro_rules | `(tactic| walk_at "KswPost") => `(tactic| (dsimp only [KswPost]))
local macro_rules | `(tactic| walk_at "KswEnd") => `(tactic| (refine Held.out ?_))
/-- Euclid's contract -/
theorem c91 {prog : Program} {w : World} {p : Program} {loose : List Str} {mean : ExcName → Option Value} {mg mb : Str → Option Value} {base : Heap} {a0 b0 : Int} {ta tb : Tok}
    (C1 : CodeHd base 34 30) (C2 : CodeHd base 41 37) (ha : 0 < a0) (ha2 : a0 < 1073741824) (hb : 0 < b0) (hb2 : b0 < 1073741824) :
    Ctr prog w p loose mean mg mb base 91 [.int a0 ta, .int b0 tb] 190 (fun own => True) (fun v new => new = [] ∧ ∃ t, v = .int (Int.gcd a0 b0 : Int) t) := by
  intro dp un gd cn cs a ccd cl outer A₀ h₀ L m s Q E own x B F X NN T hk ok hn hpre hd hu ret
  have N : News h₀ L s.heap [(30, tabObj x.ps), (37, tabObj x.qs), (x.c1, x.o1), (x.c2, x.o2)] := fun q hq => NN q (List.mem_append_right _ hq)
  walk_at "enter_d"
  clear X T B N
  k_steps
  unfold Held
  rename News _ _ _ _ => N5
  rename Fr g' _ _ _ => F5
  k_dflt (refine' ksw_while (σ := TS × (Int × Tok) × (Int × Tok)) (fun c => [(30, tabObj c.1.ps), (37, tabObj c.1.qs), (c.1.c1, c.1.o1), (c.1.c2, c.1.o2)]) (fun c => [(Str.ofString "one", .int c.2.1.1 c.2.1.2), (Str.ofString "other", .int c.2.2.1 c.2.2.2)]) (fun c => c.1.Ok) [Str.ofString "rest"] (fun c => (0 < c.2.1.1 ∧ c.2.1.1 < 1073741824) ∧ (0 ≤ c.2.2.1 ∧ c.2.2.1 < 1073741824) ∧ Int.gcd c.2.1.1 c.2.2.1 = Int.gcd a0 b0) (fun c => c.2.2.1.toNat) (x, (a0, ta), (b0, tb)) F5 ?kn ok ?kk ⟨⟨ha, ha2⟩, ⟨Int.le_of_lt hb, hb2⟩, rfl⟩ ?turn; (case kn => exact N5); (case kk => kst_all))
  case turn =>
    intro c u h tk oky hP F N
    obtain ⟨y, ⟨one, t1⟩, ⟨other, t2⟩⟩ := c
    dsimp only at oky hP F N
    obtain ⟨⟨o0, o1⟩, ⟨p0, p1⟩, hg⟩ := hP
    clear N5 F5
    with_reducible show wpAny _ _ _ _ _ _
    k_fold
    k_steps
    · skip
      unfold Held
      k_dflt (refine' ctr_use (c56 C1 C2 (Int.le_of_lt o0) (Int.lt_trans o1 (by decide)) (by assumption) p1) ?B ?F ?X ?N ?ht ?T ?hk ?ok ?hn ?pre ?hd ?hu ?_; (case B => k_asm); (case F => k_asm); (case X => k_asm); (case N => k_asm); (case T => k_asm); (case hk => exact rfl); (case ok => assumption); (case ht => repeat (first | exact Tl4.base | apply Tl4.cons)); (case hn => walk_at "off4"); (case pre => trivial); (case hd => ktr_room); (case hu => ktr_units))
      intro v9 new9 y9 h9 tk9 F9 N9 ok9 ap9 ⟨l9, w1, w2, e1, e2⟩
      subst e1 e2
      obtain ⟨sp9, pa9, pb9, pc9, pd9⟩ := ap9
      simp only [List.nil_append, List.cons_append, TS.led] at N9 sp9 pa9 pb9 pc9 pd9
      obtain ⟨sp9a, -⟩ := sp9
      try dsimp only at sp9a
      try dsimp only
      have hm0 : 0 ≤ one % other := Int.emod_nonneg _ (by omega)
      have hm1 : one % other < other := Int.emod_lt_of_pos _ (by assumption)
      k_steps
      · unfold Held
        rename News _ _ _ _ => N7
        rename Fr g' _ _ _ => F7
        have hgr : Int.gcd other (one % other) = Int.gcd a0 b0 := by rw [gcd_rest, hg]
        k_dflt (refine' ksw_end ((y9, (other, _), (one % other, _)) : TS × (Int × Tok) × (Int × Tok)) F7 N7 ?hn ok9 ?hk ?hr ?hp ?hm; (case hn => kst_in); (case hk => kst_all); (case hr => (intro z h2 h3; simp only [List.forall_mem_cons, List.not_mem_nil, false_implies, implies_true, and_true, ne_eq] at h2; simp only [List.contains_cons, List.contains_nil, Bool.or_false, beq_eq_false_iff_ne, ne_eq] at h3; simp [kstB, h2, h3]; done)); (case hp => exact ⟨⟨by assumption, p1⟩, ⟨hm0, Int.lt_trans hm1 p1⟩, hgr⟩); (case hm => (show (one % other).toNat < other.toNat; omega)))
    · have hz : other = 0 := by omega
      rename News _ _ _ _ => N7
      rename Fr g' _ _ _ => F7
      have he : one = (Int.gcd a0 b0 : Int) := by rw [← hg, hz, Int.gcd_zero_right]; omega
      obtain ⟨FF, NF, AP⟩ := ctr_fin [] y (by assumption) NN ok hn KG' SG' F7 N7 (by kst_in) rfl oky
      exact ret _ [] _ _ _ FF NF oky AP ⟨rfl, t1, by rw [← he]⟩
end
-- part S3
section
local macro_rules | `(tactic| walk_at "call ref") => `(tactic| (k_here; refine Held.out ?_))
local macro_rules | `(tactic| walk_at "exec While BoolOp cons nil") => `(tactic| (k_here; refine Held.out ?_))
local macro_rules | `(tactic| walk_at "KswPost") => `(tactic| (dsimp only [KswPost]))
local macro_rules | `(tactic| walk_at "binaryOp Pow int int") => `(tactic| (k_here; refine Held.out ?_))
local macro_rules | `(tactic| walk_at "binaryOp Mult int int") => `(tactic| (k_here; refine Held.out ?_))
local macro_rules | `(tactic| walk_at "KswEnd") => `(tactic| (refine Held.out ?_))
structure St where
  x : TS
  one : Int
  other : Int
  t1 : Tok
  t2 : Tok
  wt : Addr
  wd : Addr
  cc : Int
  nc : Int
  u1 : Tok
  u2 : Tok
  u3 : Tok
  u4 : Tok
local macro_rules | `(tactic| walk_at "eval Dict nil nil") => `(tactic| (k_here; k_dflt (refine' newDictE ?k1 ?k2 (TopRead.nolimit (by k_asm)) ?_; (case k1 => k_asm); (case k2 => k_asm); k_whole); intro d' h' F' N' l1 lo'; (try k_lt l1); (try k_sweep)))
theorem c84 {prog : Program} {w : World} {p : Program} {loose : List Str} {mean : ExcName → Option Value} {mg mb : Str → Option Value} {base : Heap} {a0 b0 : Int} {ta tb : Tok}
    (C1 : CodeHd base 34 30) (C2 : CodeHd base 41 37) (ha : 0 < a0) (ha2 : a0 < 2 ^ 32) (hb : 0 < b0) (hb2 : b0 < 2 ^ 32) :
    Ctr prog w p loose mean mg mb base 84 [.int a0 ta, .int b0 tb] 190 (fun own => True) (fun v new => ∃ l t1 t2, v = .ref l ∧ new = [(l, tp [.int (Int.gcd a0 b0 : Int) t1, .int (stp a0 b0) t2])]) := by
  intro dp un gd cn cs a ccd cl outer A₀ h₀ L m s Q E own x B F X NN T hk ok hn hpre hd hu ret
  have N : News h₀ L s.heap [(30, tabObj x.ps), (37, tabObj x.qs), (x.c1, x.o1), (x.c2, x.o2)] := fun q hq => NN q (List.mem_append_right _ hq)
  walk_at "enter_d"
  clear X T B N
  k_steps
  unfold Held
  k_dflt (refine' ctr_use (c77 C1 C2 ha ha2) ?B ?F ?X ?N ?ht ?T ?hk ?ok ?hn ?pre ?hd ?hu ?_; (case B => k_asm); (case F => k_asm); (case X => k_asm); (case N => k_asm); (case T => k_asm); (case hk => exact rfl); (case ok => assumption); (case ht => repeat (first | exact Tl4.base | apply Tl4.cons)); (case hn => walk_at "off4"); (case pre => trivial); (case hd => ktr_room); (case hu => ktr_units))
  intro v9 new9 y9 h9 tk9 F9 N9 ok9 ap9 ⟨l9, w1, w2, e1, e2⟩
  subst e1 e2
  obtain ⟨sp9, pa9, pb9, pc9, pd9⟩ := ap9
  simp only [List.nil_append, List.cons_append, TS.led] at N9 sp9 pa9 pb9 pc9 pd9
  obtain ⟨sp9a, -⟩ := sp9
  try dsimp only at sp9a
  try dsimp only
  k_steps
  unfold Held
  k_dflt (refine' ctr_use (c77 C1 C2 hb hb2) ?B ?F ?X ?N ?ht ?T ?hk ?ok ?hn ?pre ?hd ?hu ?_; (case B => k_asm); (case F => k_asm); (case X => k_asm); (case N => k_asm); (case T => k_asm); (case hk => exact rfl); (case ok => assumption); (case ht => repeat (first | exact Tl4.base | apply Tl4.cons)); (case hn => walk_at "off4"); (case pre => trivial); (case hd => ktr_room); (case hu => ktr_units))
  intro v8 new8 y8 h8 tk8 F8 N8 ok8 ap8 ⟨l8, w3, w4, e1, e2⟩
  subst e1 e2
  obtain ⟨sp8, pa8, pb8, pc8, pd8⟩ := ap8
  simp only [List.nil_append, List.cons_append, TS.led] at N8 sp8 pa8 pb8 pc8 pd8
  obtain ⟨sp8a, -⟩ := sp8
  try dsimp only at sp8a
  try dsimp only
  k_steps
  unfold Held
  rename News _ _ _ _ => N5
  rename Fr g' _ _ _ => F5
  rename (_ == sysModules) = false => lo
  k_dflt (refine' ksw_while (σ := St) (fun c => [(c.wt, tp [.int c.cc c.u1, .int c.nc c.u2, .int 0 c.u3, .int 0 c.u4, .ref c.wd]), (c.wd, eD), (30, tabObj c.x.ps), (37, tabObj c.x.qs), (c.x.c1, c.x.o1), (c.x.c2, c.x.o2)]) (fun c => [(Str.ofString "one", .int c.one c.t1), (Str.ofString "other", .int c.other c.t2), (Str.ofString "whole", .ref c.wt)]) (fun c => c.x.Ok ∧ (c.wd == sysModules) = false) [Str.ofString "many"] (fun c => SI a0 b0 c.one c.other c.nc) (fun c => (99 - c.nc).toNat) ⟨y8, od a0, od b0, w1, w3, _, _, 0, 0, _, _, _, _⟩ F5 ?kn ?kf ?kk ?kp ?turn; (case kn => exact kst_newsOf N5 (by kst_inAny)); (case kf => exact ⟨ok8, lo⟩); (case kk => kst_all); (case kp => exact SI.nil ha hb ha2 hb2))
  case turn =>
    intro c u h tk hF hP F N
    obtain ⟨y, one, other, t1, t2, wt, wd, cc, nc, u1, u2, u3, u4⟩ := c
    obtain ⟨oky, lo⟩ := hF
    dsimp only at oky lo hP F N
    clear N5 F5
    have hle := hP.le ha hb ha2 hb2
    with_reducible show wpAny _ _ _ _ _ _
    k_fold
    k_steps
    · have hstep := hP.step (by assumption) (by omega)
      unfold Held
      k_dflt (refine' ctr_use (c77 C1 C2 (hP.gap (by assumption)).1 (hP.gap (by assumption)).2) ?B ?F ?X ?N ?ht ?T ?hk ?ok ?hn ?pre ?hd ?hu ?_; (case B => k_asm); (case F => k_asm); (case X => k_asm); (case N => k_asm); (case T => k_asm); (case hk => exact rfl); (case ok => assumption); (case ht => repeat (first | exact Tl4.base | apply Tl4.cons)); (case hn => walk_at "off4"); (case pre => trivial); (case hd => ktr_room); (case hu => ktr_units))
      intro v7 new7 y7 h7 tk7 F7 N7 ok7 ap7 ⟨l7, w5, w6, e1, e2⟩
      subst e1 e2
      obtain ⟨sp7, pa7, pb7, pc7, pd7⟩ := ap7
      simp only [List.nil_append, List.cons_append, TS.led] at N7 sp7 pa7 pb7 pc7 pd7
      obtain ⟨sp7a, -⟩ := sp7
      try dsimp only at sp7a
      try dsimp only
      k_steps
      unfold Held
      k_dflt (refine' ctr_use (c63 lo ?lo2) ?B ?F ?X ?N ?ht ?T ?hk ?ok ?hn ?pre ?hd ?hu ?_; (case B => k_asm); (case F => k_asm); (case X => k_asm); (case N => k_asm); (case T => k_asm); (case hk => exact rfl); (case ok => assumption); (case ht => repeat (first | exact Tl4.base | apply Tl4.cons)); (case hn => walk_at "off4"); (case pre => exact ⟨by k_mem, by k_mem, by k_mem, by k_mem⟩); (case lo2 => assumption); (case hd => ktr_room); (case hu => ktr_units))
      intro v6 new6 y6 h6 tk6 F6 N6 ok6 ap6 ⟨l6, e6, v1, v2, v3, v4, e1, e2, lo6⟩
      subst e1 e2
      obtain ⟨sp6, pa6, pb6, pc6, pd6⟩ := ap6
      simp only [List.nil_append, List.cons_append, TS.led] at N6 sp6 pa6 pb6 pc6 pd6
      obtain ⟨sp6a, sp6b, -⟩ := sp6
      try dsimp only at sp6a sp6b
      try dsimp only
      simp only [Int.add_zero] at N6
      k_steps
      unfold Held
      rename News _ _ _ _ => N7
      rename Fr g' _ _ _ => F7
      k_dflt (refine' ksw_end (⟨y6, _, _, _, _, l6, e6, _, 1 + nc, _, _, _, _⟩ : St) F7 N7 ?hn ?hf ?hk ?hr ?hp ?hm; (case hn => kst_in); (case hk => kst_all); (case hr => (intro z h2 h3; simp only [List.forall_mem_cons, List.not_mem_nil, false_implies, implies_true, and_true, ne_eq] at h2; simp only [List.contains_cons, List.contains_nil, Bool.or_false, beq_eq_false_iff_ne, ne_eq] at h3; simp [kstB, h2, h3]; done)); (case hp => exact hstep); (case hm => (show (99 - (1 + nc)).toNat < (99 - nc).toNat; omega)); (case hf => exact ⟨by assumption, lo6⟩))
    · rename one = other => he
      subst he
      obtain ⟨f1, f2⟩ := hP.fin ha hb ha2 hb2
      have z1 := tz_small ha ha2
      have z2 := tz_small hb hb2
      have bt : Builtin.Int.intBits one ≤ 64 := Nat.le_trans (bits_of (k := 32) (Int.le_of_lt hP.o.x0) hP.x2) (by decide)
      unfold Held
      k_dflt (refine' PyProof.Rows.pow_int_small ?h1 ?h2 (by decide) ?_; (case h1 => split <;> omega); (case h2 => split <;> omega))
      try dsimp only
      k_dflt (refine' PyProof.Rows.mul_int ?_ (IntMulOk.of_left bt))
      try dsimp only
      k_steps
      rename News _ _ _ _ => N7
      rename Fr g' _ _ _ => F7
      rw [f1, f2] at N7
      obtain ⟨FF, NF, AP⟩ := ctr_fin [(_, tp [.int (Int.gcd a0 b0 : Int) _, .int (stp a0 b0) _])] y (by assumption) NN ok hn KG' SG' F7 N7 (by kst_in) rfl oky
      exact ret _ _ _ _ _ FF NF oky AP ⟨_, _, _, rfl, rfl⟩
theorem c84g {prog : Program} {w : World} {p : Program} {loose : List Str} {mean : ExcName → Option Value} {mg mb : Str → Option Value} {base : Heap} {a0 b0 g st : Int} {ta tb : Tok}
    (C1 : CodeHd base 34 30) (C2 : CodeHd base 41 37) (ha : 0 < a0) (ha2 : a0 < 2 ^ 32) (hb : 0 < b0) (hb2 : b0 < 2 ^ 32) (hg : (Int.gcd a0 b0 : Int) = g) (hs : stp a0 b0 = st) :
    Ctr prog w p loose mean mg mb base 84 [.int a0 ta, .int b0 tb] 190 (fun own => True) (fun v new => ∃ l t1 t2, v = .ref l ∧ new = [(l, tp [.int g t1, .int st t2])]) := by
  subst hg hs
  exact c84 C1 C2 ha ha2 hb hb2
theorem c91g {prog : Program} {w : World} {p : Program} {loose : List Str} {mean : ExcName → Option Value} {mg mb : Str → Option Value} {base : Heap} {a0 b0 g : Int} {ta tb : Tok}
    (C1 : CodeHd base 34 30) (C2 : CodeHd base 41 37) (ha : 0 < a0) (ha2 : a0 < 1073741824) (hb : 0 < b0) (hb2 : b0 < 1073741824) (hg : (Int.gcd a0 b0 : Int) = g) :
    Ctr prog w p loose mean mg mb base 91 [.int a0 ta, .int b0 tb] 190 (fun own => True) (fun v new => new = [] ∧ ∃ t, v = .int g t) := by
  subst hg
  exact c91 C1 C2 ha ha2 hb hb2
theorem c56g {prog : Program} {w : World} {p : Program} {loose : List Str} {mean : ExcName → Option Value} {mg mb : Str → Option Value} {base : Heap} {a0 b0 q r : Int} {ta tb : Tok}
    (C1 : CodeHd base 34 30) (C2 : CodeHd base 41 37) (ha : 0 ≤ a0) (ha2 : a0 < 2 ^ 40) (hb : 0 < b0) (hb2 : b0 < 1073741824) (hq : a0 / b0 = q) (hr : a0 % b0 = r) :
    Ctr prog w p loose mean mg mb base 56 [.int a0 ta, .int b0 tb] 170 (fun own => True) (fun v new => ∃ l t1 t2, v = .ref l ∧ new = [(l, tp [.int q t1, .int r t2])]) := by
  subst hq hr
  exact c56 C1 C2 ha ha2 hb hb2
end
-- part T1
section
local macro_rules | `(tactic| walk_at "call ref") => `(tactic| (k_here; refine Held.out ?_))
local macro_rules | `(tactic| walk_at "KrPost") => `(tactic| (dsimp only [KrPost]))
local macro_rules | `(tactic| walk_at "KrEnd") => `(tactic| (refine Held.out ?_))
local macro_rules | `(tactic| walk_at "CompRestT") => `(tactic| (with_unfolding_all first
  | (refine LCt.CompRestT.succ ?_; intro v' I' oI' C' oC' D' m' h' tk' E' hv' hC' hx' F' N' off' ne'; lcg_open hv'; (obtain ⟨oa', ob', oc'⟩ := offs_ne off' ne'); clear off' ne')
  | refine LCt.CompRestT.zero ?_))
local macro_rules | `(tactic| walk_at "CompEnd") => `(tactic| (refine Held.out ?_))
abbrev Led2 (hc : Addr) (d : TS × Obj) : List (Addr × Obj) := [(hc, d.2), (30, tabObj d.1.ps), (37, tabObj d.1.qs), (d.1.c1, d.1.o1), (d.1.c2, d.1.o2)]
abbrev stored2 : List Str := [Str.ofString "one", Str.ofString "other", Str.ofString "steps", Str.ofString "parts"]
abbrev P2 (hc : Addr) (d : TS × Obj) : Prop := d.1.Ok ∧ (∃ v, d.2.data = .cell v) ∧ AllNe hc [(30, eD), (37, eD), (d.1.c1, eD), (d.1.c2, eD)]
theorem off_stored {l : List Str} {z : Str} (h : l.contains z = false) : ∀ x ∈ l, z ≠ x := fun x hx e => by
  subst e
  rw [List.contains_iff_mem.mpr hx] at h
  cases h
theorem tail2 {prog : Program} {w : World} {p : Program} {loose : List Str} {mean : ExcName → Option Value} {mg mb : Str → Option Value} {base : Heap}
    {oc1 : Value} {od1 : Option Addr} {osl1 : Array (Option Value)} {nm qq : Str} {pp : Arguments} {tgt itx : Expr} {s0 s1 s2 s3 s4 : Stmt} {tail rest : List Stmt} {sc : Scope} {pos : Pos} {dV kV doc pm cdv ctt : Value} {an : Option Addr}
    (ho : (Mine.hd.heap_39 w.params).lookup 96 = some ⟨oc1, od1, .func (fnOf nm qq pp (.For tgt itx (s0 :: s1 :: s2 :: s3 :: s4 :: tail) [] pos :: rest) sc dV kV doc pm an cdv ctt), osl1⟩)
    (C1 : CodeHd base 34 30) (C2 : CodeHd base 41 37)
    {dp un : Nat} {gd : Option (List Code)} {fa : Addr} {cd : Value} {outer : List Env} {A₀ : Around} {h₀ : Heap} {L : Addr} {m₀ m₂ : Str → Option Value} {s : Shared} {Q : Flow → Shared → Prop} {E : Value → Shared → Prop} {I hc DZ pa pb : Addr} {x1 x2 x3 : Int} {y : TS} {o : Obj} {h : Heap} {tk : Nat} {a b g qa qb : Int} {t1 t2 u1 u2 u3 u4 u5 : Tok}
    (B : Below A₀ base outer h₀) (F : Fr h₀ L h (fun z => if z = Str.ofString "parts" then some (.ref DZ) else m₂ z)) (X : (Mine.hd.heap_39 w.params).In h₀)
    (N : News h₀ L h [(DZ, LCg.lst [.ref pa, .ref pb]), (pa, tp [.int qa u1, .int 0 u2]), (pb, tp [.int qb u3, .int 0 u4]), (I, krsIt x1 x2 x3), (hc, o), (30, tabObj y.ps), (37, tabObj y.qs), (y.c1, y.o1), (y.c2, y.o2)]) (T : Top p loose mean mg mb h₀)
    (ok : y.Ok) (hcz : o.data = .cell (some (.int g u5))) (hhc : AllNe hc [(30, eD), (37, eD), (y.c1, eD), (y.c2, eD)]) (hI : AllNe I [(hc, eD), (30, eD), (37, eD), (y.c1, eD), (y.c2, eD)])
    (m1 : m₂ (Str.ofString "one") = some (.int a t1)) (m2 : m₂ (Str.ofString "other") = some (.int b t2))
    (hm : ∀ z, z ≠ Str.ofString "k" → stored2.contains z = false → m₂ z = m₀ z)
    (a0 : 0 < a) (a1 : a ≤ 1000000000) (b0 : 0 < b) (b1 : b ≤ 1000000000) (g0 : 0 < g) (g1 : g ≤ a) (qa0 : 0 < qa) (qa1 : qa ≤ a) (qb0 : 0 < qb) (qb1 : qb ≤ b)
    (hqs : (Int.gcd qa qb : Int) = 1) (hgd : (Int.gcd (2 * a) (2 * b) : Int) = 2 * g) (hd : dp + 300 < recursionLimit) (hu : un + 8 * 300 < cLine) :
    wpAny (model prog w) (ktrTop dp un gd nm sc L fa cd [(Str.ofString "shared", hc)] outer) (execs tail (envX nm sc L fa cd [(Str.ofString "shared", hc)])) (KrPost h₀ L s (Led2 hc) (Str.ofString "k") stored2 m₀ (P2 hc) Q I (krsIt x1 x2 x3)) E { s with heap := h, toks := tk } := by
  refine' at_elim ?e ho ?k
  (case e => k_dflt k_is)
  intro q
  cases q
  clear ho
  obtain ⟨m₁, hm₁⟩ : ∃ m₁ : Str → Option Value, m₂ = fun y => if y = Str.ofString "one" then some (.int a t1) else if y = Str.ofString "other" then some (.int b t2) else m₁ y :=
    ⟨m₂, by
      funext y
      by_cases h1 : y = Str.ofString "one"
      · rw [if_pos h1, h1, m1]
      · rw [if_neg h1]
        by_cases h2 : y = Str.ofString "other"
        · rw [if_pos h2, h2, m2]
        · rw [if_neg h2]⟩
  subst hm₁
  clear m1 m2
  have az : a < 2 ^ 32 := Int.lt_of_le_of_lt a1 (by decide)
  have bz : b < 2 ^ 32 := Int.lt_of_le_of_lt b1 (by decide)
  have nf0 := noF_cell hcz
  with_reducible show wpAny _ _ _ _ _ _
  k_fold
  k_steps
  unfold Held
  rename News _ _ _ [_, _, _, _, _, _, _, _, _, _, _, _] => N7
  k_dflt (refine' LCg.CompEnd.intro ?F1 N7 [(DZ, LCg.lst [.ref pa, .ref pb]), (pa, tp [.int qa u1, .int 0 u2]), (pb, tp [.int qb u3, .int 0 u4]), (I, krsIt x1 x2 x3), (hc, o), (30, tabObj y.ps), (37, tabObj y.qs), (y.c1, y.o1), (y.c2, y.o2)] ?sub1 ?off1 ?src1 ?r1; (case F1 => assumption))
  case sub1 => lcg_sub
  case off1 => lcg_off
  case src1 => exact Or.inr ⟨_, by k_mem, rfl, _, rfl⟩
  clear N7
  k_steps
  unfold Held
  rename News _ _ _ [_, _, _, _, _, _, _, _, _, _, _, _] => N7
  k_dflt (refine' LCg.CompEnd.intro ?F2 N7 [(DZ, LCg.lst [.ref pa, .ref pb]), (pa, tp [.int qa u1, .int 0 u2]), (pb, tp [.int qb u3, .int 0 u4]), (I, krsIt x1 x2 x3), (hc, o), (30, tabObj y.ps), (37, tabObj y.qs), (y.c1, y.o1), (y.c2, y.o2)] ?sub2 ?off2 ?src2 ?r2; (case F2 => assumption))
  case sub2 => lcg_sub
  case off2 => lcg_off
  case src2 => exact Or.inr ⟨_, by k_mem, rfl, _, rfl⟩
  clear N7
  k_steps
  obtain ⟨st1, hst1⟩ : ∃ v, stp qa qb = v := ⟨_, rfl⟩
  obtain ⟨st2, hst2⟩ : ∃ v, stp (2 * a) (2 * b) = v := ⟨_, rfl⟩
  have aa : (Int.gcd a a : Int) = a := by rw [Int.gcd_self]; omega
  have ss : stp a a = 0 := stp_self a
  unfold Held
  k_dflt (refine' ctr_use (c84g C1 C2 qa0 (Int.lt_of_le_of_lt qa1 az) qb0 (Int.lt_of_le_of_lt qb1 bz) hqs hst1) ?B ?F ?X ?N ?ht ?T ?hk ?ok ?hn ?pre ?hd ?hu ?_; (case B => k_asm); (case F => k_asm); (case X => k_asm); (case N => k_asm); (case T => k_asm); (case hk => exact rfl); (case ok => assumption); (case ht => repeat (first | exact Tl4.base | apply Tl4.cons)); (case hn => walk_at "off4"); (case pre => trivial); (case hd => ktr_room); (case hu => ktr_units))
  intro v9 new9 y9 h9 tk9 F9 N9 ok9 ap9 ⟨l9, w1, w2, e1, e2⟩
  subst e1 e2
  obtain ⟨sp9, pa9, pb9, pc9, pd9⟩ := ap9
  simp only [List.nil_append, List.cons_append, TS.led] at N9 sp9 pa9 pb9 pc9 pd9
  obtain ⟨sp9a, -⟩ := sp9
  try dsimp only at sp9a
  try dsimp only
  k_steps
  unfold Held
  k_dflt (refine' ctr_use (c84g C1 C2 (by omega) (by omega) (by omega) (by omega) hgd hst2) ?B ?F ?X ?N ?ht ?T ?hk ?ok ?hn ?pre ?hd ?hu ?_; (case B => k_asm); (case F => k_asm); (case X => k_asm); (case N => k_asm); (case T => k_asm); (case hk => exact rfl); (case ok => assumption); (case ht => repeat (first | exact Tl4.base | apply Tl4.cons)); (case hn => walk_at "off4"); (case pre => trivial); (case hd => ktr_room); (case hu => ktr_units))
  intro v8 new8 y8 h8 tk8 F8 N8 ok8 ap8 ⟨l8, w3, w4, e1, e2⟩
  subst e1 e2
  obtain ⟨sp8, pa8, pb8, pc8, pd8⟩ := ap8
  simp only [List.nil_append, List.cons_append, TS.led] at N8 sp8 pa8 pb8 pc8 pd8
  obtain ⟨sp8a, -⟩ := sp8
  try dsimp only at sp8a
  try dsimp only
  k_steps
  · exfalso; contradiction
  unfold Held
  k_dflt (refine' ctr_use (c84g C1 C2 a0 az a0 az aa ss) ?B ?F ?X ?N ?ht ?T ?hk ?ok ?hn ?pre ?hd ?hu ?_; (case B => k_asm); (case F => k_asm); (case X => k_asm); (case N => k_asm); (case T => k_asm); (case hk => exact rfl); (case ok => assumption); (case ht => repeat (first | exact Tl4.base | apply Tl4.cons)); (case hn => walk_at "off4"); (case pre => trivial); (case hd => ktr_room); (case hu => ktr_units))
  intro v7 new7 y7 h7 tk7 F7 N7 ok7 ap7 ⟨l7, w5, w6, e1, e2⟩
  subst e1 e2
  obtain ⟨sp7, pa7, pb7, pc7, pd7⟩ := ap7
  simp only [List.nil_append, List.cons_append, TS.led] at N7 sp7 pa7 pb7 pc7 pd7
  obtain ⟨sp7a, -⟩ := sp7
  try dsimp only at sp7a
  try dsimp only
  k_steps
  unfold Held
  rename News _ _ _ _ => N7
  rename Fr _ _ _ _ => F7
  k_dflt (refine' ⟨(y7, o), _, _, _, _, rfl, F7, N7, ?hn, ?ho, ?hk, ?hP⟩; (case hn => kst_in))
  case ho => exact List.forall_mem_cons.mpr ⟨by k_ne, List.forall_mem_cons.mpr ⟨by k_ne, List.forall_mem_cons.mpr ⟨by k_ne, List.forall_mem_cons.mpr ⟨by k_ne, List.forall_mem_cons.mpr ⟨by k_ne, List.forall_mem_nil _⟩⟩⟩⟩⟩
  case hP => exact ⟨ok7, ⟨_, hcz⟩, ⟨by k_ne, by k_ne, by k_ne, by k_ne, trivial⟩⟩
  case hk =>
    intro z h1 h2
    have c := off_stored h2
    have n1 := c (Str.ofString "parts") (by k_memK)
    dsimp only
    rw [if_neg n1]
    exact hm z h1 h2
end
-- part T2
section
local macro_rules | `(tactic| walk_at "call ref") => `(tactic| (k_here; refine Held.out ?_))
local macro_rules | `(tactic| walk_at "KrPost") => `(tactic| (dsimp only [KrPost]))
local macro_rules | `(tactic| walk_at "KrEnd") => `(tactic| (refine Held.out ?_))
local macro_rules | `(tactic| walk_at "FinA") => `(tactic| (refine Held.out ?_))
theorem absmod1 {x : Int} (h : 0 ≤ x) : 0 < 1 + x.fmod (10 ^ Int.toNat 9) ∧ 1 + x.fmod (10 ^ Int.toNat 9) ≤ 1000000000 := by
  have e : (10 : Int) ^ Int.toNat 9 = 1000000000 := by decide
  rw [e, Int.fmod_eq_emod_of_nonneg _ (by decide)]
  omega
theorem turn2 {prog : Program} {w : World} {p : Program} {loose : List Str} {mean : ExcName → Option Value} {mg mb : Str → Option Value} {base : Heap}
    {oc1 : Value} {od1 : Option Addr} {osl1 : Array (Option Value)} {nm qq : Str} {pp : Arguments} {tgt itx : Expr} {body rest : List Stmt} {sc : Scope} {pos : Pos} {dV kV doc pm cdv ctt : Value} {an : Option Addr}
    (ho : (Mine.hd.heap_39 w.params).lookup 96 = some ⟨oc1, od1, .func (fnOf nm qq pp (.For tgt itx body [] pos :: rest) sc dV kV doc pm an cdv ctt), osl1⟩)
    (C1 : CodeHd base 34 30) (C2 : CodeHd base 41 37)
    {dp un : Nat} {gd : Option (List Code)} {fa : Addr} {cd : Value} {outer : List Env} {A₀ : Around} {h₀ : Heap} {L : Addr} {m₀ : Str → Option Value} {s : Shared} {Q : Flow → Shared → Prop} {E : Value → Shared → Prop} {I hc l : Addr} {x1 x2 x3 : Int} {d : TS × Obj} {u : Str → Option Value} {h : Heap} {tk : Nat} {k : Int} {t : Tok} {vs : List Value} {ns : List Int}
    (B : Below A₀ base outer h₀) (F : Fr h₀ L h (fun y => if y = Str.ofString "k" then some (.int k t) else if stored2.contains y then u y else m₀ y)) (X : (Mine.hd.heap_39 w.params).In h₀) (N : News h₀ L h ((I, krsIt x1 x2 x3) :: Led2 hc d)) (T : Top p loose mean mg mb h₀)
    (hP : P2 hc d) (hI : ∀ p ∈ Led2 hc d, p.1 ≠ I) (hl : h₀.IsList l vs.toArray) (hi : IntsAre vs ns) (hm : m₀ (Str.ofString "script") = some (.ref l)) (k0 : 0 ≤ k) (k1 : k + 1 < ns.length) (hlen : ns.length ≤ 63) (hd : dp + 300 < recursionLimit) (hu : un + 8 * 300 < cLine) :
    wpAny (model prog w) (ktrTop dp un gd nm sc L fa cd [(Str.ofString "shared", hc)] outer) (execs body (envX nm sc L fa cd [(Str.ofString "shared", hc)])) (KrPost h₀ L s (Led2 hc) (Str.ofString "k") stored2 m₀ (P2 hc) Q I (krsIt x1 x2 x3)) E { s with heap := h, toks := tk } := by
  have ho2 := ho
  refine' at_elim ?e ho ?k
  (case e => k_dflt k_is)
  intro q
  cases q
  clear ho
  obtain ⟨m₁, hm₁⟩ : ∃ m₁ : Str → Option Value, m₀ = fun y => if y = Str.ofString "script" then some (.ref l) else m₁ y := ⟨m₀, by funext y; by_cases hy : y = Str.ofString "script"; (· rw [if_pos hy, hy, hm]); (· rw [if_neg hy])⟩
  subst hm₁
  clear hm
  obtain ⟨x, o⟩ := d
  obtain ⟨ok, ⟨v0, hcell⟩, hne⟩ := hP
  have hneI : AllNe I [(hc, eD), (30, eD), (37, eD), (x.c1, eD), (x.c2, eD)] := ⟨hI (hc, o) (.head _), hI (30, tabObj x.ps) (.tail _ (.head _)), hI (37, tabObj x.qs) (.tail _ (.tail _ (.head _))), hI (x.c1, x.o1) (.tail _ (.tail _ (.tail _ (.head _)))), hI (x.c2, x.o2) (.tail _ (.tail _ (.tail _ (.tail _ (.head _))))), trivial⟩
  clear hI
  dsimp only [Led2] at N hne ok hcell
  with_reducible show wpAny _ _ _ _ _ _
  k_fold
  k_steps
  rename Fr _ _ _ _ => F5
  rename News _ _ _ _ => N5
  generalize hA : 1 + (if ns.getD k.toNat 0 < 0 then -ns.getD k.toNat 0 else ns.getD k.toNat 0).fmod (10 ^ Int.toNat 9) = a at F5 N5 ⊢
  generalize hB : 1 + (if ns.getD (k + 1).toNat 0 < 0 then -ns.getD (k + 1).toNat 0 else ns.getD (k + 1).toNat 0).fmod (10 ^ Int.toNat 9) = b at F5 N5 ⊢
  have ha : 0 < a ∧ a ≤ 1000000000 := by rw [← hA]; exact absmod1 (by omega)
  have hb : 0 < b ∧ b ≤ 1000000000 := by rw [← hB]; exact absmod1 (by omega)
  clear hA hB
  obtain ⟨a0, a1⟩ := ha
  obtain ⟨b0, b1⟩ := hb
  have nf0 := noF_cell hcell
  obtain ⟨g, hg⟩ : ∃ g, (Int.gcd a b : Int) = g := ⟨_, rfl⟩
  obtain ⟨st, hst⟩ : ∃ st, stp a b = st := ⟨_, rfl⟩
  have hg2 : (Int.gcd b a : Int) = g := by rw [Int.gcd_comm]; exact hg
  have hst2 : stp b a = st := by rw [stp_symm]; exact hst
  have g0 : 0 < g ∧ g ≤ a := by rw [← hg]; exact gcd_le b a0
  obtain ⟨g0, g1⟩ := g0
  have az : a < 2 ^ 32 := Int.lt_of_le_of_lt a1 (by decide)
  have bz : b < 2 ^ 32 := Int.lt_of_le_of_lt b1 (by decide)
  unfold Held
  k_dflt (refine' ctr_use (c84g C1 C2 a0 az b0 bz hg hst) ?B ?F ?X ?N ?ht ?T ?hk ?ok ?hn ?pre ?hd ?hu ?_; (case B => k_asm); (case F => k_asm); (case X => k_asm); (case N => k_asm); (case T => k_asm); (case hk => exact rfl); (case ok => assumption); (case ht => repeat (first | exact Tl4.base | apply Tl4.cons)); (case hn => walk_at "off4"); (case pre => trivial); (case hd => ktr_room); (case hu => ktr_units))
  intro v9 new9 y9 h9 tk9 F9 N9 ok9 ap9 ⟨l9, w1, w2, e1, e2⟩
  subst e1 e2
  obtain ⟨sp9, pa9, pb9, pc9, pd9⟩ := ap9
  simp only [List.nil_append, List.cons_append, TS.led] at N9 sp9 pa9 pb9 pc9 pd9
  obtain ⟨sp9a, -⟩ := sp9
  try dsimp only at sp9a
  try dsimp only
  k_steps
  unfold Held
  k_dflt (refine' ctr_use (c91g C1 C2 a0 (Int.lt_of_le_of_lt a1 (by decide)) b0 (Int.lt_of_le_of_lt b1 (by decide)) hg) ?B ?F ?X ?N ?ht ?T ?hk ?ok ?hn ?pre ?hd ?hu ?_; (case B => k_asm); (case F => k_asm); (case X => k_asm); (case N => k_asm); (case T => k_asm); (case hk => exact rfl); (case ok => assumption); (case ht => repeat (first | exact Tl4.base | apply Tl4.cons)); (case hn => walk_at "off4"); (case pre => trivial); (case hd => ktr_room); (case hu => ktr_units))
  intro v8 new8 y8 h8 tk8 F8 N8 ok8 ap8 ⟨e1, t8, e2⟩
  subst e1 e2
  obtain ⟨sp8, pa8, pb8, pc8, pd8⟩ := ap8
  simp only [List.nil_append, List.cons_append, TS.led] at N8 sp8 pa8 pb8 pc8 pd8
  clear sp8
  try dsimp only
  k_steps
  · exfalso; contradiction
  unfold Held
  k_dflt (refine' ctr_use (c84g C1 C2 b0 bz a0 az hg2 hst2) ?B ?F ?X ?N ?ht ?T ?hk ?ok ?hn ?pre ?hd ?hu ?_; (case B => k_asm); (case F => k_asm); (case X => k_asm); (case N => k_asm); (case T => k_asm); (case hk => exact rfl); (case ok => assumption); (case ht => repeat (first | exact Tl4.base | apply Tl4.cons)); (case hn => walk_at "off4"); (case pre => trivial); (case hd => ktr_room); (case hu => ktr_units))
  intro v7 new7 y7 h7 tk7 F7 N7 ok7 ap7 ⟨l7, w3, w4, e1, e2⟩
  subst e1 e2
  obtain ⟨sp7, pa7, pb7, pc7, pd7⟩ := ap7
  simp only [List.nil_append, List.cons_append, TS.led] at N7 sp7 pa7 pb7 pc7 pd7
  obtain ⟨sp7a, -⟩ := sp7
  try dsimp only at sp7a
  try dsimp only
  k_steps
  obtain ⟨da, hda⟩ : ∃ l, digs 1 a = l := ⟨_, rfl⟩
  obtain ⟨db, hdb⟩ : ∃ l, digs 1 b = l := ⟨_, rfl⟩
  have hst3 : st ≤ (da.length : Int) + (db.length : Int) := by rw [← hst, ← hda, ← hdb]; exact (stp_le a0 b0).2
  have lda : da.length ≤ 32 := by rw [← hda, dg_len, dlen_one]; exact bits_of (Int.le_of_lt a0) az
  have ldb : db.length ≤ 32 := by rw [← hdb, dg_len, dlen_one]; exact bits_of (Int.le_of_lt b0) bz
  obtain ⟨qa, hqa⟩ : ∃ q, a / g = q := ⟨_, rfl⟩
  obtain ⟨qb, hqb⟩ : ∃ q, b / g = q := ⟨_, rfl⟩
  have hra : a % g = 0 := by rw [← hg]; exact (gcd_rests a b).1
  have hrb : b % g = 0 := by rw [← hg]; exact (gcd_rests a b).2
  have hqs : (Int.gcd qa qb : Int) = 1 := by rw [← hqa, ← hqb, ← hg]; exact gcd_shares a0
  obtain ⟨qa0, qa1⟩ : 0 < qa ∧ qa ≤ a := by rw [← hqa]; exact part_pos (b := b) a0 g0 hra
  obtain ⟨qb0, qb1⟩ : 0 < qb ∧ qb ≤ b := by rw [← hqb]; exact part_pos (b := a) b0 g0 hrb
  have gz : g < 1073741824 := Int.lt_of_le_of_lt (Int.le_trans g1 a1) (by decide)
  have ba : Builtin.Int.intBits a ≤ 64 := Nat.le_trans (bits_of (k := 32) (Int.le_of_lt a0) az) (by decide)
  have bb : Builtin.Int.intBits b ≤ 64 := Nat.le_trans (bits_of (k := 32) (Int.le_of_lt b0) bz) (by decide)
  unfold Held
  k_dflt (refine' ctr_use (c35 (a0 := a) (n := 1) C1 (Int.le_of_lt a0) ba (by decide) (by decide)) ?B ?F ?X ?N ?ht ?T ?hk ?ok ?hn ?pre ?hd ?hu ?_; (case B => k_asm); (case F => k_asm); (case X => k_asm); (case N => k_asm); (case T => k_asm); (case hk => exact rfl); (case ok => assumption); (case ht => repeat (first | exact Tl4.base | apply Tl4.cons)); (case hn => walk_at "off4"); (case pre => trivial); (case hd => ktr_room); (case hu => ktr_units))
  intro v6 new6 y6 h6 tk6 F6 N6 ok6 ap6 ⟨l6, vs6, k6, e1, e2, hI6⟩
  subst e1 e2
  obtain ⟨sp6, pa6, pb6, pc6, pd6⟩ := ap6
  simp only [List.nil_append, List.cons_append, TS.led] at N6 sp6 pa6 pb6 pc6 pd6
  obtain ⟨sp6a, -⟩ := sp6
  try dsimp only at sp6a
  try dsimp only
  rw [hda] at hI6
  have sz6 : (List.toArray vs6).size = da.length := by rw [List.size_toArray, hI6.length]
  k_steps
  unfold Held
  k_dflt (refine' ctr_use (c35 (a0 := b) (n := 1) C1 (Int.le_of_lt b0) bb (by decide) (by decide)) ?B ?F ?X ?N ?ht ?T ?hk ?ok ?hn ?pre ?hd ?hu ?_; (case B => k_asm); (case F => k_asm); (case X => k_asm); (case N => k_asm); (case T => k_asm); (case hk => exact rfl); (case ok => assumption); (case ht => repeat (first | exact Tl4.base | apply Tl4.cons)); (case hn => walk_at "off4"); (case pre => trivial); (case hd => ktr_room); (case hu => ktr_units))
  intro v5 new5 y5 h5 tk5 F5 N5 ok5 ap5 ⟨l5, vs5, k5, e1, e2, hI5⟩
  subst e1 e2
  obtain ⟨sp5, pa5, pb5, pc5, pd5⟩ := ap5
  simp only [List.nil_append, List.cons_append, TS.led] at N5 sp5 pa5 pb5 pc5 pd5
  obtain ⟨sp5a, -⟩ := sp5
  try dsimp only at sp5a
  try dsimp only
  rw [hdb] at hI5
  have sz5 : (List.toArray vs5).size = db.length := by rw [List.size_toArray, hI5.length]
  k_steps
  unfold Held
  k_dflt (refine' ctr_use (c56g C1 C2 (Int.le_of_lt a0) (Int.lt_trans az (by decide)) g0 gz hqa hra) ?B ?F ?X ?N ?ht ?T ?hk ?ok ?hn ?pre ?hd ?hu ?_; (case B => k_asm); (case F => k_asm); (case X => k_asm); (case N => k_asm); (case T => k_asm); (case hk => exact rfl); (case ok => assumption); (case ht => repeat (first | exact Tl4.base | apply Tl4.cons)); (case hn => walk_at "off4"); (case pre => trivial); (case hd => ktr_room); (case hu => ktr_units))
  intro v4 new4 y4 h4 tk4 F4 N4 ok4 ap4 ⟨l4, w5, w6, e1, e2⟩
  subst e1 e2
  obtain ⟨sp4, pa4, pb4, pc4, pd4⟩ := ap4
  simp only [List.nil_append, List.cons_append, TS.led] at N4 sp4 pa4 pb4 pc4 pd4
  obtain ⟨sp4a, -⟩ := sp4
  try dsimp only at sp4a
  try dsimp only
  k_steps
  unfold Held
  k_dflt (refine' ctr_use (c56g C1 C2 (Int.le_of_lt b0) (Int.lt_trans bz (by decide)) g0 gz hqb hrb) ?B ?F ?X ?N ?ht ?T ?hk ?ok ?hn ?pre ?hd ?hu ?_; (case B => k_asm); (case F => k_asm); (case X => k_asm); (case N => k_asm); (case T => k_asm); (case hk => exact rfl); (case ok => assumption); (case ht => repeat (first | exact Tl4.base | apply Tl4.cons)); (case hn => walk_at "off4"); (case pre => trivial); (case hd => ktr_room); (case hu => ktr_units))
  intro v3 new3 y3 h3 tk3 F3 N3 ok3 ap3 ⟨l3, w7, w8, e1, e2⟩
  subst e1 e2
  obtain ⟨sp3, pa3, pb3, pc3, pd3⟩ := ap3
  simp only [List.nil_append, List.cons_append, TS.led] at N3 sp3 pa3 pb3 pc3 pd3
  obtain ⟨sp3a, -⟩ := sp3
  try dsimp only at sp3a
  try dsimp only
  k_steps
  unfold Held
  unfold LCg.FinA
  intro DZ hZ tkZ FZ NZ oZ
  clear oZ
  simp only [List.nil_append, List.cons_append] at NZ
  rename _ = Data.cell _ => hcz
  have hgd : (Int.gcd (2 * a) (2 * b) : Int) = 2 * g := by rw [gcd_double, hg]
  refine' (fun (NR : News h₀ L hZ [(DZ, LCg.lst [.ref _, .ref _]), (_, tp [.int qa _, .int 0 _]), (_, tp [.int qb _, .int 0 _]), (I, krsIt x1 x2 x3), (hc, _), (30, tabObj y3.ps), (37, tabObj y3.qs), (y3.c1, y3.o1), (y3.c2, y3.o2)]) => ?_) (kst_newsOf NZ ?hm)
  case hm => k_dflt kst_inAny
  have hIB : AllNe I [(hc, eD), (30, eD), (37, eD), (y3.c1, eD), (y3.c2, eD)] := ⟨by k_ne, by k_ne, by k_ne, by k_ne, by k_ne, trivial⟩
  have hhc : AllNe hc [(30, eD), (37, eD), (y3.c1, eD), (y3.c2, eD)] := ⟨by k_ne, by k_ne, by k_ne, by k_ne, trivial⟩
  try dsimp only
  k_dflt (refine' tail2 ho2 C1 C2 ?B FZ ?X NR ?T ok3 hcz hhc hIB ?m1 ?m2 ?hm2 a0 a1 b0 b1 g0 g1 qa0 qa1 qb0 qb1 hqs hgd hd hu; (case B => assumption); (case X => assumption); (case T => assumption); (case m1 => exact rfl); (case m2 => exact rfl))
  case hm2 =>
    intro z h1 h2
    have c := off_stored h2
    have n1 := c (Str.ofString "one") (by k_memK)
    have n2 := c (Str.ofString "other") (by k_memK)
    have n3 := c (Str.ofString "steps") (by k_memK)
    simp only [n1, n2, n3, h1, h2, if_false, Bool.false_eq_true]
end
-- part U2
section
theorem loop2 {prog : Program} {w : World} {p : Program} {loose : List Str} {mean : ExcName → Option Value} {mg mb : Str → Option Value} {base : Heap}
    {oc1 : Value} {od1 : Option Addr} {osl1 : Array (Option Value)} {nm qq : Str} {pp : Arguments} {tgt itx : Expr} {body rest : List Stmt} {sc : Scope} {pos : Pos} {dV kV doc pm cdv ctt : Value} {an : Option Addr}
    (ho : (Mine.hd.heap_39 w.params).lookup 96 = some ⟨oc1, od1, .func (fnOf nm qq pp (.For tgt itx body [] pos :: rest) sc dV kV doc pm an cdv ctt), osl1⟩)
    (C1 : CodeHd base 34 30) (C2 : CodeHd base 41 37)
    {dp un : Nat} {gd : Option (List Code)} {fa : Addr} {cd : Value} {outer : List Env} {A₀ : Around} {h₀ : Heap} {L : Addr} {m : Str → Option Value} {s : Shared} {Q : Flow → Shared → Prop} {E : Value → Shared → Prop} {r l : Addr} {o : Obj} {v0 : Option Value} {t1 t2 t3 : Tok} {vs : List Value} {ns : List Int}
    (B : Below A₀ base outer h₀) (F : Fr h₀ L s.heap m) (X : (Mine.hd.heap_39 w.params).In h₀) (N : News h₀ L s.heap [(L + 1, o), (37, tabObj #[]), (30, tabObj #[])]) (T : Top p loose mean mg mb h₀)
    (hcell : o.data = .cell v0) (l0 : 37 < L ∧ 30 < L) (hR : IsRange s.heap r 0 ((if (ns.length : Int) < 8 then (ns.length : Int) else 8) - 1) 2 t1 t2 t3)
    (hl : h₀.IsList l vs.toArray) (hi : IntsAre vs ns) (hm : m (Str.ofString "script") = some (.ref l)) (hlen : ¬ ((63 : Nat) : Int) < (ns.length : Int)) (hd : dp + 300 < recursionLimit) (hu : un + 8 * 300 < cLine)
    (done : ∀ (d : TS × Obj) (u : Str → Option Value) h tk, P2 (L + 1) d → Fr h₀ L h (fun y => if y = Str.ofString "k" then u y else if stored2.contains y then u y else m y) → News h₀ L h (Led2 (L + 1) d) → Q .next { s with heap := h, toks := tk }) :
    wpAny (model prog w) (ktrTop dp un gd nm sc L fa cd [(Str.ofString "shared", L + 1)] outer) (pyIter (.ref r))
      (fun it s₂ => LoopAtV prog w (ktrTop dp un gd nm sc L fa cd [(Str.ofString "shared", L + 1)] outer) h₀ (envX nm sc L fa cd [(Str.ofString "shared", L + 1)]) (Str.ofString "k") body Q E it s₂) E s := by
  have hb : -1 ≤ (if (ns.length : Int) < 8 then (ns.length : Int) else 8) - 1 ∧ (if (ns.length : Int) < 8 then (ns.length : Int) else 8) - 1 ≤ 7 := by split <;> omega
  have hb2 : (if (ns.length : Int) < 8 then (ns.length : Int) else 8) ≤ (ns.length : Int) := by split <;> omega
  obtain ⟨n, hn, hin⟩ := range_n hb.1 hb.2
  have hL : (∀ a : Nat, a < L → a ≠ L + 1) := fun a h => by omega
  refine krs_inv (σ := TS × Obj) (Led2 (L + 1)) stored2 (P2 (L + 1)) (⟨#[], #[], 30, 37, tabObj #[], tabObj #[]⟩, o) rfl hR (range_small hb.1 hb.2) hn F (fun q hq => N q ?_) ?_ ?_ done
  · simp only [Led2, List.mem_cons, List.not_mem_nil, or_false] at hq ⊢
    rcases hq with h | h | h | h | h
    · exact .inl h
    · exact .inr (.inr h)
    · exact .inr (.inl h)
    · exact .inr (.inr h)
    · exact .inr (.inl h)
  · exact ⟨⟨.inl ⟨rfl, rfl, rfl⟩, .inl ⟨rfl, rfl, rfl⟩⟩, ⟨_, hcell⟩, ⟨hL _ l0.2, hL _ l0.1, hL _ l0.2, hL _ l0.1, trivial⟩⟩
  · intro I d i t u h tk hi2 hP hI F' N'
    have := hin i hi2
    exact turn2 ho C1 C2 B F' X N' T hP hI hl hi hm (by omega) (by omega) (by omega) hd hu
local macro_rules | `(tactic| walk_at "exec For Name Call cons nil") => `(tactic| (k_here; (rename Fr _ _ _ _ => lF'); (with_unfolding_all refine' For_invVF lF' ?k1 ?k2 ?_; (case k1 => exact rfl); (case k2 => exact rfl); k_whole)))
local macro_rules | `(tactic| walk_at "pyIter ref") => `(tactic| (k_here; refine Held.out ?_))
theorem tt : PySem.Challenge.rw_ge0005_02.Holds := Mine.hd (by
  k_go0
  all_goals (try k_fold)
  all_goals k_steps
  unfold Held
  rename IsRange _ _ _ _ _ _ _ _ => hR
  rename Fr _ _ _ _ => F5
  rename News _ _ _ _ => N5
  rename IntsAre _ _ => hI0
  rename Below _ _ _ _ => B5
  rename CodeHd _ (41, 37).1 (41, 37).2 => C41
  rename CodeHd _ (34, 30).1 (34, 30).2 => C34
  rename (_ = Data.cell _) => hcell
  rename _ ∧ _ => l0
  k_dflt (refine' loop2 ?ho C34 C41 B5 F5 ?X N5 ?T hcell l0 hR lifted hI0 ?hm ?hlen ?hd ?hu ?done; (case ho => k_is); (case X => assumption); (case T => assumption); (case hm => exact rfl); (case hlen => assumption); (case hd => decide); (case hu => decide))
  case done =>
    intro d u h tk hP F N
    clear F5 N5
    try dsimp only
    k_steps)
end
end Mine
theorem PySem.Challenge.cw_ge0005_02_holds : PySem.Challenge.rw_ge0005_02.Holds :=
  Mine.tt
