import PyProof.Rows.All
import Wide.All
import OpenK.AllK
import Wide.FinOn
import PySem.Challenge.RW_sw0028_01
open PySem PySem.W PySem.Spec PySem.Calls PyProof.Rows
set_option Elab.async false
set_option maxRecDepth 100000
set_option linter.unusedVariables false
set_option linter.unusedSimpArgs false
set_option rowWalk.seconds 0
set_option compiler.extract_closed false
namespace Mine

set_option maxRecDepth 100000
set_option maxHeartbeats 8000000
section
noncomputable def keepOf (l : List Stmt) : List Stmt := [1, 2, 3, 4, 5, 7, 9, 10, 11, 12, 13, 14, 15, 16, 17, 18, 20, 21, 22, 23, 24, 25, 26, 27].filterMap fun i => l[i]?
noncomputable def viewS : {q : Program // q = { PySem.Challenge.pw_sw0028_01 with main := { PySem.Challenge.pw_sw0028_01.main with body := keepOf PySem.Challenge.pw_sw0028_01.main.body } }} :=
  ⟨{ PySem.Challenge.pw_sw0028_01 with main := { PySem.Challenge.pw_sw0028_01.main with body := [_, _, _, _, _, _, _, _, _, _, _, _, _, _, _, _, _, _, _, _, _, _, _, _] } }, rfl⟩
noncomputable def view : Program := viewS.1
local macro_rules | `(tactic| o_law) => `(tactic| (refine holds_law (by first | (rewrite [PySem.W.Fast.te9446332074065402090]; delta PySem.W.Fast.tw9446332074065402090; (repeat (any_goals (with_reducible refine look_both ?_ ?_))); all_goals decide +kernel) | decide +kernel) fun said => ?_))
local macro_rules | `(tactic| o_head $H) => `(tactic| (
  refine holds_open (q := view) (loose := []) (Xt := fun s => xlAt view [] s && recOk (RowW.records (OpenRow.toRowW (OpenLaw.row PySem.Challenge.rw_sw0028_01))) s) (XP := XL view []) (Yf := Hook.obs $H) (Ya := Hook.val $H) (YP := Hook.says $H) (N := 2102) ?hl (Hook.of $H) (Hook.keeps $H) (fun s e => xl_of s (Bool.and_eq_true_iff.mp e).1) XL.keeps (by rfl) (by rfl) (by rfl) (fun s e => recFacts_of (Bool.and_eq_true_iff.mp e).2) (by rfl) (by first | assumption | decide +kernel) (by decide +kernel) ⟨rfl, rfl, rfl, rfl, rfl, by decide +kernel⟩ ?hw ?hc
  case hl => intro w; first | (delta openEnds fencedOpening topFrom; rewrite [PySem.W.Fast.te10274390034422433532, PySem.W.Fast.te1435165496053646825, PySem.W.Fast.te14289696077712309145, PySem.W.Fast.te14082659384304107361, PySem.W.Fast.te4187177175401517315, PySem.W.Fast.te14364793385576792824]; kernel_rfl) | kernel_rfl))
open_top hd for PySem.Challenge.rw_sw0028_01
end


abbrev aro (dp un : Nat) (gd : Option (List Code)) (fr : List Env) : Around :=
  { handled := none, depth := dp, frames := some fr, guards := gd, units := un }

/-- the heap around a call: what no call may change (g), and the objects that it may (pre) -/
structure Holds (g h : Heap) (pre : List (Addr × Obj)) : Prop where
  keep : ∀ b o, g.get? b = some o → h.get? b = some o
  has : ∀ q ∈ pre, h.get? q.1 = some q.2 ∧ g.get? q.1 = none

/-- the contract of a def: called on vs with the objects pre at hand, it comes back with a value and with objects of which Post is so;
nothing else of the heap is turned -/
noncomputable def Spec (w : World) (f : Addr) (d : Nat) (vs : List Value) (pre : List (Addr × Obj)) (Post : Value → List (Addr × Obj) → Prop) : Prop :=
  ∀ (mean : ExcName → Option Value) (mg mb : PySem.Str → Option Value) (p : Program) (loose : List PySem.Str) (dp un : Nat) (gd : Option (List Code)) (fr : List Env)
    (base g : Heap) (s : Shared) (R : Result → Shared → Prop),
    Below (aro dp un gd fr) base fr g → (hd.heap_19 w.params).In g → Top p loose mean mg mb g → g.objs.size ≤ s.heap.objs.size → Holds g s.heap pre →
    dp + d < recursionLimit → un + 8 * d < cLine →
    (∀ v news h' tk', Post v news → Holds g h' news → R (.ok (.ret v)) { s with heap := h', toks := tk' }) →
    codeAny (model PySem.Challenge.rw_sw0028_01.row.prog w) (aro dp un gd fr) (.call (.ref f) ⟨vs, []⟩) R s

theorem enter {prog : Program} {w : World} {A : Around} {s : Shared} {base g : Heap} {fr : List Env} {pre : List (Addr × Obj)} {K : Frag}
    {R : Result → Shared → Prop} {name qual : PySem.Str} {params : Arguments} {body : List Stmt} {scope : Scope} {dV kV doc pm cdv ct oc : Value} {an od : Option Addr} {osl : Array (Option Value)} {f : Addr} {vs : List Value} {binds : List (PySem.Str × Value)}
    {p : Program} {loose : List PySem.Str} {mean : ExcName → Option Value} {mg mb : PySem.Str → Option Value}
    (B : Below A base fr g) (X : K.In g) (T : Top p loose mean mg mb g) (hsz : g.objs.size ≤ s.heap.objs.size) (H : Holds g s.heap pre)
    (ho : K.lookup f = some ⟨oc, od, .func (fnOf name qual params body scope dV kV doc pm an cdv ct), osl⟩) (hcd : codeIn K cdv qual = true) (hroom : A.depth < recursionLimit)
    (hbind : BindsTo s (fnOf name qual params body scope dV kV doc pm an cdv ct) ⟨vs, []⟩ binds) (hloc : ∀ y ∈ binds, scope.names.lookup y.1 = some .local)
    (h : ∀ L' h₁, Fr g L' h₁ (fun y => binds.reverse.lookup y) → News g L' h₁ pre → (∀ q ∈ pre, q.1 < L') →
      wpAny (model prog w) (A.deeper (envOf qual scope L' f cdv)) (execs body (envOf qual scope L' f cdv))
        (fun fl s' => R (.ok (.ret (match fl with | .ret v => v | _ => .none))) s')
        (fun e s' => wpAny (model prog w) (A.deeper (envOf qual scope L' f cdv)) (leaving (envOf qual scope L' f cdv) e) (fun _ s'' => R (.error e) s'') (fun e' s'' => R (.error e') s'') s')
        { s with heap := h₁, toks := s.toks + binds.length })
    (hco : scope.isCoroutine = false) (hgen : scope.isGenerator = false) (hk : scope.kind = .function)
    (hcell : ∀ x ∈ scope.names, x.2 ≠ .cell) :
    codeAny (model prog w) A (.call (.ref f) ⟨vs, []⟩) R s := by
  refine codeAny_call_def (fd := fnOf name qual params body scope dV kV doc pm an cdv ct) (body := body) (binds := binds) hroom ((X.keeps H.keep) _ _ ho) rfl (T.nolimit.keeps H.keep) (codeRec_of (X.keeps H.keep) hcd) rfl hbind hcell hloc (fun h₁ hns hk₁ => ?_) hco hgen hk
  exact h s.heap.objs.size h₁ ⟨hns, fun b o e => hk₁ b o (H.keep b o e), hsz⟩
    (fun q hq => ⟨hk₁ _ _ (H.has q hq).1, Nat.ne_of_lt (Heap.lt_size (H.has q hq).1), (H.has q hq).2⟩) (fun q hq => Heap.lt_size (H.has q hq).1)

/-- the same for a def some of whose names are cells -/
theorem enterC {prog : Program} {w : World} {A : Around} {s : Shared} {base g : Heap} {fr : List Env} {pre : List (Addr × Obj)} {K : Frag}
    {R : Result → Shared → Prop} {name qual : PySem.Str} {params : Arguments} {body : List Stmt} {scope : Scope} {dV kV doc pm cdv ct oc : Value} {an od : Option Addr} {osl : Array (Option Value)} {f : Addr} {vs : List Value} {binds : List (PySem.Str × Value)}
    {p : Program} {loose : List PySem.Str} {mean : ExcName → Option Value} {mg mb : PySem.Str → Option Value}
    (B : Below A base fr g) (X : K.In g) (T : Top p loose mean mg mb g) (hsz : g.objs.size ≤ s.heap.objs.size) (H : Holds g s.heap pre)
    (ho : K.lookup f = some ⟨oc, od, .func (fnOf name qual params body scope dV kV doc pm an cdv ct), osl⟩) (hcd : codeIn K cdv qual = true) (hroom : A.depth < recursionLimit)
    (hbind : BindsTo s (fnOf name qual params body scope dV kV doc pm an cdv ct) ⟨vs, []⟩ binds)
    (hkind : (binds.all fun y => scope.names.lookup y.1 == some .local || scope.names.lookup y.1 == some .cell) = true)
    (hnd : ((cellsFrom 0 scope.names []).map (·.1)).Nodup)
    (h : ∀ L' h₁ tk cells, Fr g L' h₁ (bindL (envOfC qual scope L' f cdv).kindOf binds fun _ => none) → News g L' h₁ (cells ++ pre) →
      CellsAre (bindC (envOfC qual scope L' f cdv).kindOf binds fun _ => none) (cellsFrom (L' + 1) scope.names []) cells → (∀ q ∈ pre, q.1 < L') →
      wpAny (model prog w) (A.deeper (envOfC qual scope L' f cdv)) (execs body (envOfC qual scope L' f cdv))
        (fun fl s' => R (.ok (.ret (match fl with | .ret v => v | _ => .none))) s')
        (fun e s' => wpAny (model prog w) (A.deeper (envOfC qual scope L' f cdv)) (leaving (envOfC qual scope L' f cdv) e) (fun _ s'' => R (.error e) s'') (fun e' s'' => R (.error e') s'') s')
        { s with heap := h₁, toks := tk })
    (hco : scope.isCoroutine = false) (hgen : scope.isGenerator = false) (hk : scope.kind = .function) :
    codeAny (model prog w) A (.call (.ref f) ⟨vs, []⟩) R s := by
  refine codeAny_call_function hroom ((X.keeps H.keep) _ _ ho) rfl hco hgen rfl (codeRec_of (X.keeps H.keep) hcd) (hbind _ _ _ _ ?_)
  refine wpAny_newFunctionEnv_cells hk (kindsX hkind _) fun env' he s' x => ?_
  subst he
  refine ⟨(T.nolimit.keeps H.keep).keeps x.toInCall.keep, codeAny_func ?_⟩
  obtain ⟨h₁, tk, rfl, _⟩ := x.done
  have hk₁ := x.toInCall.keep
  obtain ⟨cells, NC, Y⟩ := Cl.news (h₀ := s.heap) (Nat.le_refl _) fun n c hm => ⟨x.cell n c (lookup_of_mem_nodup (cellsFrom_names scope.names 0 (s.heap.objs.size + 1) [] [] rfl ▸ hnd) hm), x.above n c hm⟩
  refine h s.heap.objs.size h₁ tk cells ⟨x.toInCall.ns, fun b o e => hk₁ b o (H.keep b o e), hsz⟩ (fun q hq => ?_) Y (fun q hq => Heap.lt_size (H.has q hq).1)
  rcases List.mem_append.mp hq with hq | hq
  · refine ⟨(NC q hq).1, (NC q hq).2.1, ?_⟩
    cases z : g.get? q.1 with
    | none => rfl
    | some o => have := H.keep _ _ z; rw [(NC q hq).2.2] at this; cases this
  · exact ⟨hk₁ _ _ (H.has q hq).1, Nat.ne_of_lt (Heap.lt_size (H.has q hq).1), (H.has q hq).2⟩

theorem Holds.of {g h : Heap} {L : Addr} {m : PySem.Str → Option Value} {news : List (Addr × Obj)} (F : Fr g L h m) (N : News g L h news) {l : List (Addr × Obj)} (hl : ∀ q ∈ l, q ∈ news) : Holds g h l :=
  ⟨F.keep, fun q hq => ⟨(N q (hl q hq)).1, (N q (hl q hq)).2.2⟩⟩

theorem spec_end {g h' : Heap} {s : Shared} {R : Result → Shared → Prop} {Post : Value → List (Addr × Obj) → Prop} {L : Addr} {m : PySem.Str → Option Value} {newsF : List (Addr × Obj)} {v : Value} {tk' : Nat}
    (hret : ∀ v news h' tk', Post v news → Holds g h' news → R (.ok (.ret v)) { s with heap := h', toks := tk' }) (F : Fr g L h' m) (N : News g L h' newsF) (news : List (Addr × Obj)) (hp : Post v news) (hl : ∀ q ∈ news, q ∈ newsF) :
    R (.ok (.ret v)) { s with heap := h', toks := tk' } := hret v news h' tk' hp (.of F N hl)

theorem off1_of {D : Addr} : ∀ {l : List (Addr × Obj)}, (∀ r ∈ l, r.1 ≠ D) → LCg.Off1 D l
  | [], _ => trivial
  | _ :: _, h => ⟨h _ (.head _), off1_of fun r hr => h r (.tail _ hr)⟩
theorem off1_ne {D x : Addr} {o : Obj} : ∀ {l : List (Addr × Obj)}, LCg.Off1 D l → (x, o) ∈ l → @Ne Nat x D
  | [], _, hm => nomatch hm
  | _ :: _, h, hm => by
    rcases List.mem_cons.mp hm with rfl | hm
    · exact h.1
    · exact off1_ne h.2 hm
theorem off1_ne' {D x : Addr} {o : Obj} {l : List (Addr × Obj)} (h : LCg.Off1 D l) (hm : (x, o) ∈ l) : @Ne Nat D x := (off1_ne h hm).symm
theorem off3_I {I C D x : Addr} {o : Obj} {l : List (Addr × Obj)} (h : LCg.Off3 I C D l) (hm : (x, o) ∈ l) : @Ne Nat x I := (h.mem _ hm).1
theorem off3_C {I C D x : Addr} {o : Obj} {l : List (Addr × Obj)} (h : LCg.Off3 I C D l) (hm : (x, o) ∈ l) : @Ne Nat x C := (h.mem _ hm).2.1
theorem off3_D {I C D x : Addr} {o : Obj} {l : List (Addr × Obj)} (h : LCg.Off3 I C D l) (hm : (x, o) ∈ l) : @Ne Nat x D := (h.mem _ hm).2.2
theorem off3_I' {I C D x : Addr} {o : Obj} {l : List (Addr × Obj)} (h : LCg.Off3 I C D l) (hm : (x, o) ∈ l) : @Ne Nat I x := (h.mem _ hm).1.symm
theorem off3_C' {I C D x : Addr} {o : Obj} {l : List (Addr × Obj)} (h : LCg.Off3 I C D l) (hm : (x, o) ∈ l) : @Ne Nat C x := (h.mem _ hm).2.1.symm
theorem off3_D' {I C D x : Addr} {o : Obj} {l : List (Addr × Obj)} (h : LCg.Off3 I C D l) (hm : (x, o) ∈ l) : @Ne Nat D x := (h.mem _ hm).2.2.symm
/-- addresses that differ, each from each -/
noncomputable def Apart : List Addr → Prop
  | [] => True
  | a :: r => (∀ b ∈ r, @Ne Nat b a) ∧ Apart r
inductive Two (a b : Addr) : List Addr → Prop
  | head {r} : b ∈ r → Two a b (a :: r)
  | tail {c r} : Two a b r → Two a b (c :: r)
theorem two_ne {a b : Addr} : ∀ {l : List Addr}, Apart l → Two a b l → @Ne Nat b a
  | _ :: _, h, .head hm => h.1 _ hm
  | _ :: _, h, .tail t => two_ne h.2 t
theorem two_ne' {a b : Addr} {l : List Addr} (h : Apart l) (t : Two a b l) : @Ne Nat a b := (two_ne h t).symm
/-- a contract used in a frame: the touched objects (pre) and the rest of the ledger -/
theorem spec_use {w : World} {f : Addr} {d : Nat} {vs : List Value} {pre : List (Addr × Obj)} {Post : Value → List (Addr × Obj) → Prop}
    {mean : ExcName → Option Value} {mg mb : PySem.Str → Option Value} {p : Program} {loose : List PySem.Str} {dp un : Nat} {gd : Option (List Code)} {env : Env} {outer : List Env}
    {A₀ : Around} {base h₀ : Heap} {L : Addr} {m : PySem.Str → Option Value} {news rest : List (Addr × Obj)} {s : Shared} {R : Result → Shared → Prop}
    (S : Spec w f d vs pre Post) (B : Below A₀ base outer h₀) (F : Fr h₀ L s.heap m) (X : (hd.heap_19 w.params).In h₀) (N : News h₀ L s.heap news) (T : Top p loose mean mg mb h₀)
    (hf : env.frame = some L) (hke : env.scope.kind = .function)
    (hpre : ∀ q ∈ pre, q ∈ news) (hrest : ∀ q ∈ rest, q ∈ news) (hap : ∀ q ∈ pre, ∀ r ∈ rest, q.1 ≠ r.1)
    (hd : dp + d < recursionLimit) (hu : un + 8 * d < cLine)
    (h : ∀ v news' h' tk', Post v news' → Fr h₀ L h' m → News h₀ L h' (news' ++ rest) → (∀ q ∈ news', LCg.Off1 q.1 rest) → R (.ok (.ret v)) { s with heap := h', toks := tk' }) :
    codeAny (model PySem.Challenge.rw_sw0028_01.row.prog w) (aro dp un gd (env :: outer)) (.call (.ref f) ⟨vs, []⟩) R s := by
  have N' : News h₀ L s.heap pre := fun q hq => N q (hpre q hq)
  obtain ⟨FG, BG, st, _⟩ := groundX (A := aro dp un gd (env :: outer)) (R := fun _ _ => True) B F N' rfl hf hke
  have rg : ∀ r ∈ rest, (hideAll s.heap (pre.map (·.1))).get? r.1 = some r.2 := fun r hr =>
    hideAll_get _ (N r (hrest r hr)).1 fun q => by
      obtain ⟨q', hq', e⟩ := List.mem_map.mp q
      exact hap q' hq' r hr e
  refine S mean mg mb p loose dp un gd (env :: outer) base (hideAll s.heap (pre.map (·.1))) s R ⟨rfl, BG.stays, BG.frames⟩ (X.keeps fun b o e => st b o e) (T.keeps fun b o e => st b o e) (Nat.le_of_eq (hideAll_size _ _))
    ⟨fun b o e => of_hideAll _ e, fun q hq => ⟨(N' q hq).1, hideAll_none _ (List.mem_map_of_mem hq)⟩⟩ hd hu fun v news' h' tk' hp H => ?_
  obtain ⟨oL, es, ep, hL, r⟩ := FG.ns
  have nL : ∀ q ∈ news', q.1 ≠ L := fun q hq e => by
    have := (H.has q hq).2
    rw [e, hL] at this; cases this
  refine h v news' h' tk' hp ⟨⟨oL, es, ep, H.keep _ _ hL, r⟩, fun b o e => H.keep b o (st b o e), F.above⟩ (fun q hq => ?_) (fun q hq => off1_of fun r hr e => ?_)
  · rcases List.mem_append.mp hq with hq | hq
    · refine ⟨(H.has q hq).1, nL q hq, ?_⟩
      cases z : h₀.get? q.1 with
      | none => rfl
      | some o => have := (H.has q hq).2; rw [st _ _ z] at this; cases this
    · exact ⟨H.keep _ _ (rg q hq), (N q (hrest q hq)).2⟩
  · have := (H.has q hq).2
    rw [← e, rg r hr] at this; cases this
-- a small number is one of these
theorem lt4 : ∀ {k : Nat}, k < 4 → k = 0 ∨ k = 1 ∨ k = 2 ∨ k = 3
  | 0, _ => .inl rfl
  | 1, _ => .inr (.inl rfl)
  | 2, _ => .inr (.inr (.inl rfl))
  | 3, _ => .inr (.inr (.inr rfl))
  | k + 4, h => absurd h (Nat.not_lt_of_le (Nat.le_add_left 4 k))
theorem lt5 : ∀ {k : Nat}, k < 5 → k = 0 ∨ k = 1 ∨ k = 2 ∨ k = 3 ∨ k = 4
  | 0, _ => .inl rfl
  | 1, _ => .inr (.inl rfl)
  | 2, _ => .inr (.inr (.inl rfl))
  | 3, _ => .inr (.inr (.inr (.inl rfl)))
  | 4, _ => .inr (.inr (.inr (.inr rfl)))
  | k + 5, h => absurd h (Nat.not_lt_of_le (Nat.le_add_left 5 k))
theorem lt6 : ∀ {k : Nat}, k < 6 → k = 0 ∨ k = 1 ∨ k = 2 ∨ k = 3 ∨ k = 4 ∨ k = 5
  | 0, _ => .inl rfl
  | 1, _ => .inr (.inl rfl)
  | 2, _ => .inr (.inr (.inl rfl))
  | 3, _ => .inr (.inr (.inr (.inl rfl)))
  | 4, _ => .inr (.inr (.inr (.inr (.inl rfl))))
  | 5, _ => .inr (.inr (.inr (.inr (.inr rfl))))
  | k + 6, h => absurd h (Nat.not_lt_of_le (Nat.le_add_left 6 k))
theorem len3 {α : Type} : ∀ {l : List α}, l.length = 3 → ∃ a b c, l = [a, b, c]
  | [a, b, c], _ => ⟨a, b, c, rfl⟩
theorem len4 {α : Type} : ∀ {l : List α}, l.length = 4 → ∃ a b c d, l = [a, b, c, d]
  | [a, b, c, d], _ => ⟨a, b, c, d, rfl⟩
theorem len5 {α : Type} : ∀ {l : List α}, l.length = 5 → ∃ a b c d e, l = [a, b, c, d, e]
  | [a, b, c, d, e], _ => ⟨a, b, c, d, e, rfl⟩
theorem five_by {F : Nat → Tok → Value} {vs : List Value} (hl : vs.length = 5) (h : ∀ j, j < 5 → ∃ t, vs[j]? = some (F j t)) : ∃ t0 t1 t2 t3 t4, vs = [F 0 t0, F 1 t1, F 2 t2, F 3 t3, F 4 t4] := by
  obtain ⟨a, b, c, d, e, rfl⟩ := len5 hl
  obtain ⟨t0, h0⟩ := h 0 (by decide)
  obtain ⟨t1, h1⟩ := h 1 (by decide)
  obtain ⟨t2, h2⟩ := h 2 (by decide)
  obtain ⟨t3, h3⟩ := h 3 (by decide)
  obtain ⟨t4, h4⟩ := h 4 (by decide)
  exact ⟨t0, t1, t2, t3, t4, by rw [Option.some.inj h0, Option.some.inj h1, Option.some.inj h2, Option.some.inj h3, Option.some.inj h4]⟩
theorem le4i {n : Int} (h0 : 0 ≤ n) (h4 : n ≤ 4) : n = 0 ∨ n = 1 ∨ n = 2 ∨ n = 3 ∨ n = 4 := by lia
theorem lt6i {n : Int} (h0 : 0 ≤ n) (h6 : n < 6) : n = 0 ∨ n = 1 ∨ n = 2 ∨ n = 3 ∨ n = 4 ∨ n = 5 := by lia
-- a contract's start: the def is entered; the first word: what its names stand for
-- a comprehension goes turn by turn
/-- two to a small power -/
theorem pw_ex : ∃ f : Int → Int, ∀ o, f o = 2 ^ o.toNat := ⟨fun o => 2 ^ o.toNat, fun _ => rfl⟩
noncomputable def pw : Int → Int := Classical.choose pw_ex
theorem pw_eq (o : Int) : pw o = 2 ^ o.toNat := Classical.choose_spec pw_ex o
/-- xor -/
theorem xr_ex : ∃ f : Int → Int → Int, ∀ a b, f a b = Builtin.bitXor a b := ⟨fun a b => Builtin.bitXor a b, fun _ _ => rfl⟩
noncomputable def xr : Int → Int → Int := Classical.choose xr_ex
theorem xr_eq (a b : Int) : xr a b = Builtin.bitXor a b := Classical.choose_spec xr_ex a b
section
variable {prog : Program} {w : World} {A : Around} {E : Value → Shared → Prop} {s : Shared} {a b n : Int} {t u : Tok} {Q : Value → Shared → Prop}
theorem pow_pw (h0 : 0 ≤ n) (h4 : n ≤ 4) (h : Q (.int (pw n) s.toks) { s with toks := s.toks + 1 }) : wpAny (model prog w) A (binaryOp .Pow (.int 2 t) (.int n u)) Q E s :=
  pow_int_small h0 (by lia) (by decide) (by rw [pw_eq] at h; exact h)
theorem pw_lt (h0 : 0 ≤ n) (h4 : n ≤ 4) : 0 < pw n ∧ pw n ≤ 16 := by
  rw [pw_eq]
  have := le4i h0 h4
  rcases this with rfl | rfl | rfl | rfl | rfl <;> decide
theorem mul_pw (h0 : 0 ≤ n) (h4 : n ≤ 4) (h : Q (.int (a * pw n) s.toks) { s with toks := s.toks + 1 }) : wpAny (model prog w) A (binaryOp .Mult (.int a t) (.int (pw n) u)) Q E s :=
  mul_int h (IntMulOk.of_right (intBits_le_64 (by have := pw_lt h0 h4; lia) (by have := pw_lt h0 h4; lia)))
theorem xor_xr (h : Q (.int (xr a b) s.toks) { s with toks := s.toks + 1 }) : wpAny (model prog w) A (binaryOp .BitXor (.int a t) (.int b u)) Q E s :=
  xor_int (by rw [xr_eq] at h; exact h)
end
-- a new address is none of those that stand: kept as one fact
-- two addresses differ: by what stands of them, with no arithmetic where it can be
noncomputable def nth : List Value → Nat → Option Value
  | [], _ => none
  | x :: _, 0 => some x
  | _ :: r, k + 1 => nth r k
section
variable {prog : Program} {w : World} {A : Around} {E : Value → Shared → Prop} {s : Shared} {h₀ : Heap} {L D : Addr} {m : PySem.Str → Option Value} {news news' : List (Addr × Obj)} {its : Array Value} {n : Nat} {x v : Value} {zs : List Value} {k : Int} {u : Tok}
theorem append_lit {Q : Value → Shared → Prop} (F : Fr h₀ L s.heap m) (N : News h₀ L s.heap news) (e : its.toList ++ [x] = zs) (U : Upd D (listOf its n) (listOf zs.toArray (n + 1)) news news')
    (hsz : its.size ≤ sizeLine) (h : ∀ h', Fr h₀ L h' m → News h₀ L h' news' → Q .none { s with heap := h' }) : wpAny (model prog w) A (PySem.call (.builtin "list.append") [.ref D, x]) Q E s := by
  have e2 : its.push x = zs.toArray := by rw [← e]; apply Array.toList_inj.mp; simp
  rw [← e2] at U
  exact append_K F N U h hsz
theorem nth_eq : ∀ {l : List Value} {k : Nat} {v : Value}, nth l k = some v → l[k]? = some v
  | [], _, _, h => nomatch h
  | x :: _, 0, _, h => h
  | _ :: r, k + 1, _, h => by rw [List.getElem?_cons_succ]; exact nth_eq h
theorem getItem_N {Q : Value → Shared → Prop} (N : News h₀ L s.heap news) (hm : (D, listOf its n) ∈ news) (h0 : 0 ≤ k) (hhi : k < 2 ^ 63) (hx : nth its.toList k.toNat = some v) (h : Q v s) :
    wpAny (model prog w) A (getItem (.ref D) (.int k u)) Q E s :=
  wpAny_getItem_list ⟨_, (N _ hm).1, rfl, _, rfl⟩ h0 hhi (by rw [← Array.getElem?_toList]; exact nth_eq hx) h
theorem item_N {value slice : PySem.Expr} {Q : Value → Shared → Prop} (N : News h₀ L s.heap news) (hm : (D, listOf its n) ∈ news) (h0 : 0 ≤ k) (hhi : k < 2 ^ 63) (hx : nth its.toList k.toNat = some v) (h : Q v s)
    (hs : subscripted slice false (.ref D) (.int k u) = operate [.ref D, .int k u] (getItem (.ref D) (.int k u)) := by with_unfolding_all rfl) :
    wpAny (model prog w) A (subscriptTail value slice (.ref D) (.int k u)) Q E s :=
  tail_any (Heap.IsList.typeIs ⟨_, (N _ hm).1, rfl, _, rfl⟩) slot_list_getitem.lookup (getItem_N N hm h0 hhi hx h) hs
end
-- membership, by eights
section
variable {e a b c d f g i j : Addr × Obj} {l r : List (Addr × Obj)}
theorem mem1 : e ∈ a :: e :: l := .tail _ (.head _)
theorem mem2 : e ∈ a :: b :: e :: l := .tail _ (.tail _ (.head _))
theorem mem3 : e ∈ a :: b :: c :: e :: l := .tail _ (.tail _ (.tail _ (.head _)))
theorem mem4 : e ∈ a :: b :: c :: d :: e :: l := .tail _ (.tail _ (.tail _ (.tail _ (.head _))))
theorem mem5 : e ∈ a :: b :: c :: d :: f :: e :: l := .tail _ (.tail _ (.tail _ (.tail _ (.tail _ (.head _)))))
theorem mem6 : e ∈ a :: b :: c :: d :: f :: g :: e :: l := .tail _ (.tail _ (.tail _ (.tail _ (.tail _ (.tail _ (.head _))))))
theorem mem7 : e ∈ a :: b :: c :: d :: f :: g :: i :: e :: l := .tail _ (.tail _ (.tail _ (.tail _ (.tail _ (.tail _ (.tail _ (.head _)))))))
theorem mem8 (h : e ∈ l) : e ∈ a :: b :: c :: d :: f :: g :: i :: j :: l := .tail _ (.tail _ (.tail _ (.tail _ (.tail _ (.tail _ (.tail _ (.tail _ (h))))))))
theorem sub_nil : ∀ q ∈ ([] : List (Addr × Obj)), q ∈ l := fun _ h => nomatch h
theorem sub_cons (h : e ∈ l) (hr : ∀ q ∈ r, q ∈ l) : ∀ q ∈ e :: r, q ∈ l := fun q hq => (List.mem_cons.mp hq).elim (fun z => z ▸ h) (hr q)
end
theorem off1_cons {D : Addr} {p : Addr × Obj} {r : List (Addr × Obj)} (h : @Ne Nat p.1 D) (hr : LCg.Off1 D r) : LCg.Off1 D (p :: r) := ⟨h, hr⟩
-- a contract at hand is used: the objects that it touches are picked out of the ledger
inductive Take (p : Addr × Obj) : List (Addr × Obj) → List (Addr × Obj) → Prop
  | head {l} : Take p (p :: l) l
  | tail {q l r} : Take p l r → Take p (q :: l) (q :: r)
theorem Take.mem {p : Addr × Obj} {l r : List (Addr × Obj)} (h : Take p l r) : p ∈ l ∧ ∀ q ∈ r, q ∈ l := by
  induction h with
  | head => exact ⟨.head _, fun _ h => .tail _ h⟩
  | tail _ ih => exact ⟨.tail _ ih.1, fun q h => (List.mem_cons.mp h).elim (fun e => e ▸ .head _) (fun h => .tail _ (ih.2 q h))⟩
section
variable {p a b c d : Addr × Obj} {l r : List (Addr × Obj)}
theorem tk1 : Take p (a :: p :: l) (a :: l) := .tail .head
theorem tk2 : Take p (a :: b :: p :: l) (a :: b :: l) := .tail tk1
theorem tk3 : Take p (a :: b :: c :: p :: l) (a :: b :: c :: l) := .tail tk2
theorem tk4 (h : Take p l r) : Take p (a :: b :: c :: d :: l) (a :: b :: c :: d :: r) := .tail (.tail (.tail (.tail h)))
end
inductive Pick : List (Addr × Obj) → List (Addr × Obj) → List (Addr × Obj) → Prop
  | nil {l} : Pick [] l l
  | cons {p pre l r rest} : Take p l r → Pick pre r rest → Pick (p :: pre) l rest
theorem Pick.sub {pre l rest : List (Addr × Obj)} (h : Pick pre l rest) : (∀ q ∈ pre, q ∈ l) ∧ ∀ q ∈ rest, q ∈ l := by
  induction h with
  | nil => exact ⟨fun _ h => (nomatch h), fun _ h => h⟩
  | cons t _ ih => exact ⟨fun q h => (List.mem_cons.mp h).elim (fun e => e ▸ t.mem.1) (fun h => t.mem.2 _ (ih.1 q h)), fun q h => t.mem.2 _ (ih.2 q h)⟩
/-- each of these addresses is none of those -/
noncomputable def AllOff : List (Addr × Obj) → List (Addr × Obj) → Prop
  | [], _ => True
  | p :: l, r => LCg.Off1 p.1 r ∧ AllOff l r
theorem AllOff.ne {r : List (Addr × Obj)} {l : List (Addr × Obj)} (h : AllOff l r) : ∀ q ∈ l, ∀ z ∈ r, q.1 ≠ z.1 := by
  induction l with
  | nil => intro q hq; cases hq
  | cons p l ih =>
    have h1 : LCg.Off1 p.1 r := h.1
    have h2 : AllOff l r := h.2
    intro q hq z hz
    rcases List.mem_cons.mp hq with e | hq
    · rw [e]; exact off1_ne' (o := z.2) h1 hz
    · exact ih h2 q hq z hz
theorem spec_at {w : World} {f : Addr} {d : Nat} {vs : List Value} {pre : List (Addr × Obj)} {Post : Value → List (Addr × Obj) → Prop}
    {mean : ExcName → Option Value} {mg mb : PySem.Str → Option Value} {p : Program} {loose : List PySem.Str} {dp un : Nat} {gd : Option (List Code)} {env : Env} {outer : List Env}
    {A₀ : Around} {base h₀ : Heap} {L : Addr} {m : PySem.Str → Option Value} {news rest : List (Addr × Obj)} {s : Shared} {Q E : Value → Shared → Prop}
    (S : Spec w f d vs pre Post) (B : Below A₀ base outer h₀) (F : Fr h₀ L s.heap m) (X : (hd.heap_19 w.params).In h₀) (N : News h₀ L s.heap news) (T : Top p loose mean mg mb h₀)
    (hf : env.frame = some L) (hke : env.scope.kind = .function)
    (hpick : Pick pre news rest) (hap : AllOff pre rest) (hd : dp + d < recursionLimit) (hu : un + 8 * d < cLine)
    (h : ∀ v news' h' tk', Post v news' → Fr h₀ L h' m → News h₀ L h' (news' ++ rest) → (∀ q ∈ news', LCg.Off1 q.1 rest) → Q v { s with heap := h', toks := tk' }) :
    wpAny (model PySem.Challenge.rw_sw0028_01.row.prog w) (aro dp un gd (env :: outer)) (PySem.call (.ref f) vs) Q E s :=
  wpAny_call (spec_use S B F X N T hf hke hpick.sub.1 hpick.sub.2 hap.ne hd hu h)
-- the room for frames
abbrev ent (w : World) (name : PySem.Str) (t : Tok) (v : Value) : DictEntry := ⟨PyData.keyHash w.params name, .str name t, v⟩
/-- a lexer's fields -/
abbrev lexDict (w : World) (k1 k2 k3 k4 : Tok) (ln ins ws pb : Value) : Obj :=
  dictOf [ent w (PySem.Str.ofString "lineno") k1 ln, ent w (PySem.Str.ofString "instream") k2 ins, ent w (PySem.Str.ofString "whitespace") k3 ws, ent w (PySem.Str.ofString "pushback") k4 pb] 4
/-- its stream's: the same class, and a field read -/
abbrev strDict (w : World) (k1 k2 k3 k4 k5 : Tok) (ln ins ws pb rd : Value) : Obj :=
  dictOf [ent w (PySem.Str.ofString "lineno") k1 ln, ent w (PySem.Str.ofString "instream") k2 ins, ent w (PySem.Str.ofString "whitespace") k3 ws, ent w (PySem.Str.ofString "pushback") k4 pb, ent w (PySem.Str.ofString "read") k5 rd] 5
section
variable {prog : Program} {w : World} {A : Around} {E : Value → Shared → Prop} {s : Shared} {h₀ : Heap} {L D : Addr} {m : PySem.Str → Option Value} {news news' : List (Addr × Obj)} {n : Nat} {v : Value} {rest : List Value}
theorem truthy_cons {Q : Bool → Shared → Prop} (N : News h₀ L s.heap news) (hm : (D, listOf (v :: rest).toArray n) ∈ news) (hz : rest.length ≤ 1000) (h : Q true { s with toks := s.toks + 1 + 1 }) :
    wpAny (model prog w) A (truthy (.ref D)) Q E s := by
  refine wpAny_truthy_list (items := (v :: rest).toArray) ⟨_, (N _ hm).1, rfl, _, rfl⟩ ?_ ?_
  · simp only [List.size_toArray, List.length_cons]; lia
  · simpa using h
theorem truthy_nil {Q : Bool → Shared → Prop} (N : News h₀ L s.heap news) (hm : (D, listOf #[] n) ∈ news) (h : Q false { s with toks := s.toks + 1 + 1 }) :
    wpAny (model prog w) A (truthy (.ref D)) Q E s :=
  wpAny_truthy_list (items := #[]) ⟨_, (N _ hm).1, rfl, _, rfl⟩ (by decide) h
theorem pop0_cons {u : Tok} {Q : Value → Shared → Prop} (F : Fr h₀ L s.heap m) (N : News h₀ L s.heap news) (U : Upd D (listOf (v :: rest).toArray n) (listOf rest.toArray (n + 1)) news news') (hz : rest.length ≤ 1000)
    (h : ∀ h', Fr h₀ L h' m → News h₀ L h' news' → Q v { s with heap := h' }) : wpAny (model prog w) A (PySem.call (.builtin "list.pop") [.ref D, .int 0 u]) Q E s := by
  refine kl_popAt (i := 0) (k := 0) (p := []) (y := v) (q := rest) F N (by decide) ?_ rfl U ?_ h
  · unfold seqIndex?
    simp
  · rw [sizeLine_eq]; show rest.length + 1 ≤ _; lia
end
/-- a lexer and what it leans on: its dict, its stream, the stream's dict, the lambda, its code, the cell, the signs -/
noncomputable def lexL (w : World) (x dx st dst f c' cell sl pb : Addr) (k1 k2 k3 k4 j1 j2 j3 j4 j5 tw jl jw tl : Tok) (jln : Int) (jws : PySem.Str) (jpb : Value)
    (name qual : PySem.Str) (P : Arguments) (Bd : PySem.Expr) (Sc : Scope) (cl : List (PySem.Str × Addr)) (pm ctv : Value) (oc ocell : Obj) (ln : Int) (signs : List Value) (n : Nat) : List (Addr × Obj) :=
  [(x, instObj 66 dx), (dx, lexDict w k1 k2 k3 k4 (.int ln tl) (.ref st) (.str (PySem.Str.ofString "\n\t\r ") tw) (.ref pb)), (st, instObj 66 dst), (dst, strDict w j1 j2 j3 j4 j5 (.int jln jl) .none (.str jws jw) jpb (.ref f)),
        (f, kla_obj name qual P Bd Sc cl pm c' ctv), (c', oc), (cell, ocell), (sl, listOf signs.toArray n)]
/-- what the lambda gives, whatever waits -/
noncomputable def Lam (w : World) (f c' cell sl : Addr) (name qual : PySem.Str) (P : Arguments) (Bd : PySem.Expr) (Sc : Scope) (cl : List (PySem.Str × Addr)) (pm ctv : Value) (oc ocell : Obj) : Prop :=
  (∀ t c tc rest n, List.length rest ≤ 1000 → Spec w f 1 [.int 1 t] [(f, kla_obj name qual P Bd Sc cl pm c' ctv), (c', oc), (cell, ocell), (sl, listOf (.str c tc :: rest).toArray n)]
      (fun v news => v = .str c tc ∧ news = [(f, kla_obj name qual P Bd Sc cl pm c' ctv), (c', oc), (cell, ocell), (sl, listOf rest.toArray (n + 1))])) ∧
  (∀ t n, Spec w f 1 [.int 1 t] [(f, kla_obj name qual P Bd Sc cl pm c' ctv), (c', oc), (cell, ocell), (sl, listOf #[] n)]
      (fun v news => (∃ t, v = .str (PySem.Str.ofString "") t) ∧ news = [(f, kla_obj name qual P Bd Sc cl pm c' ctv), (c', oc), (cell, ocell), (sl, listOf #[] n)]))
local macro_rules | `(tactic| walk_at $s:str) => if s.getString == "pyIter ref" then `(tactic| k_extra "pI") else if s.getString == "pyIter str" then `(tactic| k_extra "pS") else `(tactic| k_extra $s)
local macro_rules | `(tactic| k_mem) => `(tactic| k_extra "k_mem")
local macro_rules | `(tactic| k_ne) => `(tactic| k_extra "k_ne")
local macro_rules | `(tactic| k_room) => `(tactic| k_extra "k_room")
local macro_rules | `(tactic| kpf_close) => `(tactic| k_extra "kpf_close")
local macro_rules | `(tactic| kpt_turns) => `(tactic| k_extra "kpt_turns")
local macro_rules | `(tactic| kst_p) => `(tactic| k_extra "kst_p")
local macro_rules | `(tactic| ktm_same2) => `(tactic| k_extra "ktm_same2")
local macro_rules | `(tactic| ktr_rel) => `(tactic| k_extra "ktr_rel")
local macro_rules | `(tactic| ktr_room) => `(tactic| k_extra "ktr_room")
local macro_rules | `(tactic| lcg_off) => `(tactic| k_extra "lcg_off")
local macro_rules | `(tactic| lcg_sub) => `(tactic| k_extra "lcg_sub")
local macro_rules | `(tactic| tb_rel) => `(tactic| k_extra "tb_rel")
local macro_rules | `(tactic| tb_start) => `(tactic| k_extra "tb_start")
local macro_rules | `(tactic| k_lt $h:ident) => `(tactic| (replace $h := off1_of (fun r hr => Nat.ne_of_lt ($h r hr))))

section
theorem words_cost : True := by
  k_with_none
  k_with "k_room" => (first | decide | ((try simp only [depth_under_make, depth_under_kw, depth_in1, depth_deeper, depth_caller]); lia))
  k_with "eval ListComp" => ((k_here; k_dflt (refine LCg.ListComp_U (F₀ := by k_asm) (by with_unfolding_all rfl) (by decide) (by rfl) (by decide) (by rfl) ?_); k_dflt lcg_toSrc))
  k_with "exec Assign cons ListComp" => ((k_here; k_dflt (refine LCg.Assign_ListComp_U (F₀ := by k_asm) (by rfl) (by with_unfolding_all rfl) (by with_unfolding_all rfl) (by decide) (by rfl) (by decide) (by rfl) (by rfl) (by rfl) ?_); k_dflt lcg_toSrc))
  k_with "CompSrc" => ((k_here; k_dflt (first | (refine LCg.CompSrc.ledger (by rfl) (by k_asm) (by k_asm) (by k_mem) (by first | exact Nat.le_of_ble_eq_true rfl | size_fits) ?_; intro g'; lcg_lit) | (refine LCg.CompSrc.range (by rfl) (by k_asm) (by k_asm) (by assumption) (by first | decide | rfl) (by first | rfl | decide) (by first | exact Nat.le_of_ble_eq_true rfl | size_fits) ?_; intro g'; lcg_lit))))
  k_with "binaryOp Pow int int" => ((k_here; with_reducible refine pow_pw ?kb1 ?kb2 ?_; (case kb1 => assumption); (case kb2 => assumption)))
  k_with "binaryOp Mult int int" => ((k_here; with_reducible refine mul_pw ?kb1 ?kb2 ?_; (case kb1 => assumption); (case kb2 => assumption)))
  k_with "binaryOp BitXor int int" => ((k_here; with_reducible refine xor_xr ?_))
  k_with "CompRest" => ((with_unfolding_all first | (refine LCg.CompRest.succ ?_; intro v' I' oI' C' oC' D' m' h' tk' E' hv' hC' hx' F' N' off' ne'; (first | lcg_open hv' | (obtain ⟨t9', hv9'⟩ := hv'; subst hv9')); (obtain ⟨neIC', neID', neCD'⟩ := ne')) | refine LCg.CompRest.zero ?_))
  k_with "lcg_off" => (with_reducible assumption)
  k_with "CompEnd" => (lcg_end)
  k_with "eval Name" => ((k_here; k_dflt (first
  | (refine' nameX_L ?F ?v ?_ ?a ?b; (case F => k_asm); (case a => rfl); (case b => rfl); (case v => rfl); k_whole)
  | (refine' nameX_C ?N ?c ?m ?d ?_ ?a ?b; (case a => rfl); (case b => rfl); (case N => k_asm); (case c => rfl); (case m => k_mem); (case d => k_asm); k_whole)
  | (refine' nameX_K ?F ?X ?T ?e ?_ ?a ?b; (case F => k_asm); (case X => k_asm); (case T => k_asm); (case a => rfl); (case b => rfl); (case e => k_is); k_whole))))
  k_with "eval Name" => ((k_here; (with_reducible show wpAny _ _ (eval (PySem.Expr.Name _ _) (compEnvC _ _ _ _)) _ _ _); k_dflt (first
  | (refine LCgL.ld_own (by k_asm) (by k_mem) (by assumption) (by assumption) ?_)
  | (refine' lcf_cell ?N ?c ?m ?d ?_ ?a ?b; (case a => rfl); (case b => rfl); (case N => k_asm); (case c => rfl); (case m => k_mem); (case d => k_asm); k_whole)
  | (refine' lcf_free ?N ?c ?m ?d ?_ ?a ?b; (case a => rfl); (case b => rfl); (case N => k_asm); (case c => rfl); (case m => k_mem); (case d => k_asm); k_whole)
  | (refine LCgL.ld_global (by k_asm) (by k_asm) (by k_asm) (by k_is) ?_))))
  k_with "FinE" => (((unfold LCg.FinE); intro D' h' tk' F' N' oq9'; (try simp only [List.nil_append, List.cons_append] at N'); (try dsimp only)))
  k_with "FinA" => (((unfold LCg.FinA); intro D' h' tk' F' N' oq9'; (try simp only [List.nil_append, List.cons_append] at N'); (try dsimp only)))
  k_with "k_ne" => (((try dsimp only); first
  | (with_reducible assumption)
  | (with_reducible exact Ne.symm (by assumption))
  | (refine' off1_ne ?nh ?nm; (case nh => with_reducible assumption); (case nm => k_mem))
  | (refine' off1_ne' ?nh ?nm; (case nh => with_reducible assumption); (case nm => k_mem))
  | (refine' off3_I ?nh ?nm; (case nh => with_reducible assumption); (case nm => k_mem))
  | (refine' off3_C ?nh ?nm; (case nh => with_reducible assumption); (case nm => k_mem))
  | (refine' off3_D ?nh ?nm; (case nh => with_reducible assumption); (case nm => k_mem))
  | (refine' off3_I' ?nh ?nm; (case nh => with_reducible assumption); (case nm => k_mem))
  | (refine' off3_C' ?nh ?nm; (case nh => with_reducible assumption); (case nm => k_mem))
  | (refine' off3_D' ?nh ?nm; (case nh => with_reducible assumption); (case nm => k_mem))
  | (refine' two_ne ?nh ?nm; (case nh => with_reducible assumption); (case nm => tb_start))
  | (refine' two_ne' ?nh ?nm; (case nh => with_reducible assumption); (case nm => tb_start))
  | (refine neN ?_; lia)))
  k_with "tb_start" => (first | (refine' Two.head ?th; (case th => k_mem)) | (refine' Two.tail ?tw; (case tw => tb_start)))
  k_with "call builtin:list.append" => ((k_here; (with_reducible show wpAny _ _ (PySem.call (Value.builtin _) [Value.ref _, _]) _ _ _); k_dflt (refine append_lit (by k_asm) (by k_asm) (by kl_lit) (by k_upd) (by kl_room) ?_); kl_rest))
  k_with "subscriptTail" => ((k_here; (with_reducible show wpAny _ _ (subscriptTail _ _ (Value.ref _) (Value.int _ _)) _ _ _); k_dflt (refine item_N (by k_asm) (by k_mem) (by decide) (by decide) rfl ?_ (by with_unfolding_all rfl))))
  k_with "subscriptTail Name Name ref int" => ((walk_at "subscriptTail"))
  k_with "subscriptTail Name Constant ref int" => ((walk_at "subscriptTail"))
  k_with "getItem ref int" => ((k_here; k_dflt (refine getItem_N (by k_asm) (by k_mem) (by decide) (by decide) rfl ?_)))
  k_with "getMethod ref" => ((k_here; (with_reducible show wpAny _ _ (getMethod (Value.ref _) (PySem.Str.ofString "read") _) _ _ _); k_dflt (refine kmu_own (by k_asm) (by k_asm) (by k_inst) (by k_is) (by k_is) ?_)))
  k_with "And" => (((with_reducible show FnAt _ _ ∧ _); refine ⟨FnAt.of (by k_asm) (by k_mem), ?_⟩; (try dsimp only [List.nil_append, List.cons_append])))
  k_with "k_mem" => (first | exact List.Mem.head _ | exact mem1 | exact mem2 | exact mem3 | exact mem4 | exact mem5 | exact mem6 | exact mem7 | (refine' mem8 ?_; k_mem))
  k_with "lcg_sub" => (first | exact sub_nil | (refine sub_cons (by k_mem) ?_; lcg_sub))
  k_with "kpt_turns" => (first | exact Take.head | exact tk1 | exact tk2 | exact tk3 | (refine' tk4 ?tk; (case tk => kpt_turns)))
  k_with "tb_rel" => (first | exact Pick.nil | (refine' Pick.cons ?pt ?pk; (case pt => kpt_turns); (case pk => tb_rel)))
  k_with "ktm_same2" => (first | exact True.intro | (refine off1_cons (by k_ne) ?_; ktm_same2))
  k_with "ktr_rel" => (first | exact True.intro | (refine And.intro (by ktm_same2) ?_; ktr_rel))
  k_with "ktr_room" => (first | decide | ((try simp only [depth_under_make, depth_under_kw, depth_in1, depth_deeper, depth_caller] at *); lia))
  k_with "truthy ref" => ((k_here; (with_reducible show wpAny _ _ (truthy (Value.ref _)) _ _ _); k_dflt (first
  | (refine truthy_cons (by k_asm) (by k_mem) (by with_reducible assumption) ?_)
  | (refine truthy_nil (by k_asm) (by k_mem) ?_))))
  k_with "call builtin:list.pop" => ((k_here; (with_reducible show wpAny _ _ (PySem.call (Value.builtin _) [Value.ref _, Value.int 0 _]) _ _ _); k_dflt (refine pop0_cons (by k_asm) (by k_asm) (by k_upd) (by with_reducible assumption) ?_); kl_rest))
  k_with "execs cons" => ((k_here; k_fold))
  exact True.intro

noncomputable def cost (a b : PySem.Str) : Int := if a = b then 0 else if Txt.lower a = Txt.lower b then 1 else 2
set_option maxHeartbeats 8000000 in
theorem cost_spec (w : World) (a b : PySem.Str) (ta tb : Tok) (ha : a.length ≤ 1) (hb : b.length ≤ 1) :
    Spec w 21 1 [.str a ta, .str b tb] [] (fun v news => news = [] ∧ ∃ t, v = .int (cost a b) t) := by
  unfold Spec
  w_top off
  k_fill
  intro mean mg mb p loose dp un gd fr base g s R B X T hsz H hdp hu hret
  k_dflt (refine enter (binds := [("ch_a", .str a ta), ("ch_b", .str b tb)]) (by assumption) (by assumption) (by assumption) (by assumption) (by assumption) (by k_is) (by k_is) (by k_room) (BindsTo.of_eq rfl) (locs rfl) ?_ rfl rfl rfl (by decide))
  intro L' h' F' N' l1
  (have offK' := off1_of (fun r hr => Nat.ne_of_lt (l1 r hr)))
  (try (replace l1 := allLt_of l1; simp only [AllLt, and_true] at l1))
  (try dsimp only [List.length_cons, List.length_nil, List.reverse_cons, List.reverse_nil, List.nil_append, List.cons_append])
  (try k_fold)
  repeat' (first | (k_unfold; (try dsimp only)) | (k_end; wrow_close) | walk1 | (dsimp only; walk1) | (dsimp only; k_unfold; (try dsimp only)) | (leave1; walk_say "STEP leave1"; (try dsimp only)) | fail "no step")
  all_goals (refine spec_end hret (by assumption) (by assumption) [] ⟨rfl, _, congrArg (Value.int · _) ?_⟩ (fun _ h => nomatch h))
  all_goals (clear hret; unfold cost; simp_all)

end

section
theorem words_read : True := by
  k_with_none
  k_with "k_room" => (first | decide | ((try simp only [depth_under_make, depth_under_kw, depth_in1, depth_deeper, depth_caller]); lia))
  k_with "eval ListComp" => ((k_here; k_dflt (refine LCg.ListComp_U (F₀ := by k_asm) (by with_unfolding_all rfl) (by decide) (by rfl) (by decide) (by rfl) ?_); k_dflt lcg_toSrc))
  k_with "exec Assign cons ListComp" => ((k_here; k_dflt (refine LCg.Assign_ListComp_U (F₀ := by k_asm) (by rfl) (by with_unfolding_all rfl) (by with_unfolding_all rfl) (by decide) (by rfl) (by decide) (by rfl) (by rfl) (by rfl) ?_); k_dflt lcg_toSrc))
  k_with "CompSrc" => ((k_here; k_dflt (first | (refine LCg.CompSrc.ledger (by rfl) (by k_asm) (by k_asm) (by k_mem) (by first | exact Nat.le_of_ble_eq_true rfl | size_fits) ?_; intro g'; lcg_lit) | (refine LCg.CompSrc.range (by rfl) (by k_asm) (by k_asm) (by assumption) (by first | decide | rfl) (by first | rfl | decide) (by first | exact Nat.le_of_ble_eq_true rfl | size_fits) ?_; intro g'; lcg_lit))))
  k_with "binaryOp Pow int int" => ((k_here; with_reducible refine pow_pw ?kb1 ?kb2 ?_; (case kb1 => assumption); (case kb2 => assumption)))
  k_with "binaryOp Mult int int" => ((k_here; with_reducible refine mul_pw ?kb1 ?kb2 ?_; (case kb1 => assumption); (case kb2 => assumption)))
  k_with "binaryOp BitXor int int" => ((k_here; with_reducible refine xor_xr ?_))
  k_with "CompRest" => ((with_unfolding_all first | (refine LCg.CompRest.succ ?_; intro v' I' oI' C' oC' D' m' h' tk' E' hv' hC' hx' F' N' off' ne'; (first | lcg_open hv' | (obtain ⟨t9', hv9'⟩ := hv'; subst hv9')); (obtain ⟨neIC', neID', neCD'⟩ := ne')) | refine LCg.CompRest.zero ?_))
  k_with "lcg_off" => (with_reducible assumption)
  k_with "CompEnd" => (lcg_end)
  k_with "eval Name" => ((k_here; k_dflt (first
  | (refine' nameX_L ?F ?v ?_ ?a ?b; (case F => k_asm); (case a => rfl); (case b => rfl); (case v => rfl); k_whole)
  | (refine' nameX_C ?N ?c ?m ?d ?_ ?a ?b; (case a => rfl); (case b => rfl); (case N => k_asm); (case c => rfl); (case m => k_mem); (case d => k_asm); k_whole)
  | (refine' nameX_K ?F ?X ?T ?e ?_ ?a ?b; (case F => k_asm); (case X => k_asm); (case T => k_asm); (case a => rfl); (case b => rfl); (case e => k_is); k_whole))))
  k_with "eval Name" => ((k_here; (with_reducible show wpAny _ _ (eval (PySem.Expr.Name _ _) (compEnvC _ _ _ _)) _ _ _); k_dflt (first
  | (refine LCgL.ld_own (by k_asm) (by k_mem) (by assumption) (by assumption) ?_)
  | (refine' lcf_cell ?N ?c ?m ?d ?_ ?a ?b; (case a => rfl); (case b => rfl); (case N => k_asm); (case c => rfl); (case m => k_mem); (case d => k_asm); k_whole)
  | (refine' lcf_free ?N ?c ?m ?d ?_ ?a ?b; (case a => rfl); (case b => rfl); (case N => k_asm); (case c => rfl); (case m => k_mem); (case d => k_asm); k_whole)
  | (refine LCgL.ld_global (by k_asm) (by k_asm) (by k_asm) (by k_is) ?_))))
  k_with "FinE" => (((unfold LCg.FinE); intro D' h' tk' F' N' oq9'; (try simp only [List.nil_append, List.cons_append] at N'); (try dsimp only)))
  k_with "FinA" => (((unfold LCg.FinA); intro D' h' tk' F' N' oq9'; (try simp only [List.nil_append, List.cons_append] at N'); (try dsimp only)))
  k_with "k_ne" => (((try dsimp only); first
  | (with_reducible assumption)
  | (with_reducible exact Ne.symm (by assumption))
  | (refine' off1_ne ?nh ?nm; (case nh => with_reducible assumption); (case nm => k_mem))
  | (refine' off1_ne' ?nh ?nm; (case nh => with_reducible assumption); (case nm => k_mem))
  | (refine' off3_I ?nh ?nm; (case nh => with_reducible assumption); (case nm => k_mem))
  | (refine' off3_C ?nh ?nm; (case nh => with_reducible assumption); (case nm => k_mem))
  | (refine' off3_D ?nh ?nm; (case nh => with_reducible assumption); (case nm => k_mem))
  | (refine' off3_I' ?nh ?nm; (case nh => with_reducible assumption); (case nm => k_mem))
  | (refine' off3_C' ?nh ?nm; (case nh => with_reducible assumption); (case nm => k_mem))
  | (refine' off3_D' ?nh ?nm; (case nh => with_reducible assumption); (case nm => k_mem))
  | (refine' two_ne ?nh ?nm; (case nh => with_reducible assumption); (case nm => tb_start))
  | (refine' two_ne' ?nh ?nm; (case nh => with_reducible assumption); (case nm => tb_start))
  | (refine neN ?_; lia)))
  k_with "tb_start" => (first | (refine' Two.head ?th; (case th => k_mem)) | (refine' Two.tail ?tw; (case tw => tb_start)))
  k_with "call builtin:list.append" => ((k_here; (with_reducible show wpAny _ _ (PySem.call (Value.builtin _) [Value.ref _, _]) _ _ _); k_dflt (refine append_lit (by k_asm) (by k_asm) (by kl_lit) (by k_upd) (by kl_room) ?_); kl_rest))
  k_with "subscriptTail" => ((k_here; (with_reducible show wpAny _ _ (subscriptTail _ _ (Value.ref _) (Value.int _ _)) _ _ _); k_dflt (refine item_N (by k_asm) (by k_mem) (by decide) (by decide) rfl ?_ (by with_unfolding_all rfl))))
  k_with "subscriptTail Name Name ref int" => ((walk_at "subscriptTail"))
  k_with "subscriptTail Name Constant ref int" => ((walk_at "subscriptTail"))
  k_with "getItem ref int" => ((k_here; k_dflt (refine getItem_N (by k_asm) (by k_mem) (by decide) (by decide) rfl ?_)))
  k_with "getMethod ref" => ((k_here; (with_reducible show wpAny _ _ (getMethod (Value.ref _) (PySem.Str.ofString "read") _) _ _ _); k_dflt (refine kmu_own (by k_asm) (by k_asm) (by k_inst) (by k_is) (by k_is) ?_)))
  k_with "And" => (((with_reducible show FnAt _ _ ∧ _); refine ⟨FnAt.of (by k_asm) (by k_mem), ?_⟩; (try dsimp only [List.nil_append, List.cons_append])))
  k_with "k_mem" => (first | exact List.Mem.head _ | exact mem1 | exact mem2 | exact mem3 | exact mem4 | exact mem5 | exact mem6 | exact mem7 | (refine' mem8 ?_; k_mem))
  k_with "lcg_sub" => (first | exact sub_nil | (refine sub_cons (by k_mem) ?_; lcg_sub))
  k_with "kpt_turns" => (first | exact Take.head | exact tk1 | exact tk2 | exact tk3 | (refine' tk4 ?tk; (case tk => kpt_turns)))
  k_with "tb_rel" => (first | exact Pick.nil | (refine' Pick.cons ?pt ?pk; (case pt => kpt_turns); (case pk => tb_rel)))
  k_with "ktm_same2" => (first | exact True.intro | (refine off1_cons (by k_ne) ?_; ktm_same2))
  k_with "ktr_rel" => (first | exact True.intro | (refine And.intro (by ktm_same2) ?_; ktr_rel))
  k_with "ktr_room" => (first | decide | ((try simp only [depth_under_make, depth_under_kw, depth_in1, depth_deeper, depth_caller] at *); lia))
  k_with "truthy ref" => ((k_here; (with_reducible show wpAny _ _ (truthy (Value.ref _)) _ _ _); k_dflt (first
  | (refine truthy_cons (by k_asm) (by k_mem) (by with_reducible assumption) ?_)
  | (refine truthy_nil (by k_asm) (by k_mem) ?_))))
  k_with "call builtin:list.pop" => ((k_here; (with_reducible show wpAny _ _ (PySem.call (Value.builtin _) [Value.ref _, Value.int 0 _]) _ _ _); k_dflt (refine pop0_cons (by k_asm) (by k_asm) (by k_upd) (by with_reducible assumption) ?_); kl_rest))
  k_with "execs cons" => ((k_here; k_fold))
  exact True.intro

theorem words1_read : True := by
  k_with "callWith ref" => ((k_here; k_dflt (refine callWith_F (FnAt.of (by k_asm) (by k_mem)) ?_)))
  k_with "call ref" => ((k_here; k_dflt (refine spec_at (‹∀ t : Tok, Spec _ _ _ [.int 1 t] _ _› _) (by k_asm) (by k_asm) (by k_asm) (by k_asm) (by k_asm) rfl rfl (by tb_rel) (by ktr_rel) (by ((try dsimp only); lia)) (by ((try dsimp only); lia)) ?_); (intro v' n' h' tk' pp' F' N' a1'; k_dflt (first | (obtain ⟨⟨t', ev'⟩, en'⟩ := pp'; subst ev' en') | (obtain ⟨ev', en'⟩ := pp'; subst ev' en')); clear a1'; (try dsimp only [List.cons_append, List.nil_append] at N'))))
  exact True.intro

set_option maxHeartbeats 2000000 in
theorem read_spec (w : World) (x dx st dst f c' cell sl pb : Addr) (k1 k2 k3 k4 j1 j2 j3 j4 j5 tl tw jl jw : Tok) (ln : Int) (jln : Int) (ws jws : PySem.Str) (jpb : Value)
    (name qual : PySem.Str) (P : Arguments) (Bd : PySem.Expr) (Sc : Scope) (cl : List (PySem.Str × Addr)) (pm ctv : Value) (oc ocell : Obj)
    (c : PySem.Str) (tc : Tok) (rest : List Value) (n : Nat)
    (hap : Apart [x, dx, st, dst, f, c', cell, sl])
    (HR : ∀ t, Spec w f 1 [.int 1 t] [(f, kla_obj name qual P Bd Sc cl pm c' ctv), (c', oc), (cell, ocell), (sl, listOf (.str c tc :: rest).toArray n)]
      (fun v news => v = .str c tc ∧ news = [(f, kla_obj name qual P Bd Sc cl pm c' ctv), (c', oc), (cell, ocell), (sl, listOf rest.toArray (n + 1))])) :
    Spec w 49 2 [.ref x] [(x, instObj 66 dx), (dx, lexDict w k1 k2 k3 k4 (.int ln tl) (.ref st) (.str ws tw) (.ref pb)), (st, instObj 66 dst), (dst, strDict w j1 j2 j3 j4 j5 (.int jln jl) .none (.str jws jw) jpb (.ref f)),
        (f, kla_obj name qual P Bd Sc cl pm c' ctv), (c', oc), (cell, ocell), (sl, listOf (.str c tc :: rest).toArray n)]
      (fun v news => v = .str c tc ∧ ∃ tl', news = [(x, instObj 66 dx), (dx, lexDict w k1 k2 k3 k4 (.int (if c = PySem.Str.ofString "\n" then ln + 1 else ln) tl') (.ref st) (.str ws tw) (.ref pb)), (st, instObj 66 dst), (dst, strDict w j1 j2 j3 j4 j5 (.int jln jl) .none (.str jws jw) jpb (.ref f)),
        (f, kla_obj name qual P Bd Sc cl pm c' ctv), (c', oc), (cell, ocell), (sl, listOf rest.toArray (n + 1))]) := by
  unfold Spec
  w_top off
  k_fill
  intro mean mg mb p loose dp un gd fr base g s R B X T hsz H hdp hu hret
  k_dflt (refine enter (binds := [("self", .ref x)]) (by assumption) (by assumption) (by assumption) (by assumption) (by assumption) (by k_is) (by k_is) (by k_room) (BindsTo.of_eq rfl) (locs rfl) ?_ rfl rfl rfl (by decide))
  intro L' h' F' N' l1
  (have offK' := off1_of (fun r hr => Nat.ne_of_lt (l1 r hr)))
  (try (replace l1 := allLt_of l1; simp only [AllLt, and_true] at l1))
  (try dsimp only [List.length_cons, List.length_nil, List.reverse_cons, List.reverse_nil, List.nil_append, List.cons_append])
  (try k_fold)
  repeat' (first | (k_unfold; (try dsimp only)) | (k_end; wrow_close) | walk1 | (dsimp only; walk1) | (dsimp only; k_unfold; (try dsimp only)) | (leave1; walk_say "STEP leave1"; (try dsimp only)) | fail "no step")
  all_goals (try dsimp only)
  · have hc : c = PySem.Str.ofString "\n" := eq_of_beq (by assumption)
    simp only [if_pos hc] at hret
    exact spec_end hret (by assumption) (by assumption) _ ⟨rfl, _, rfl⟩ (by lcg_sub)
  · have hc : ¬ c = PySem.Str.ofString "\n" := fun e => by subst e; simp_all
    simp only [if_neg hc] at hret
    exact spec_end hret (by assumption) (by assumption) _ ⟨rfl, _, rfl⟩ (by lcg_sub)
set_option maxHeartbeats 2000000 in
theorem read_spec0 (w : World) (x dx st dst f c' cell sl pb : Addr) (k1 k2 k3 k4 j1 j2 j3 j4 j5 tl tw jl jw : Tok) (ln : Int) (jln : Int) (ws jws : PySem.Str) (jpb : Value)
    (name qual : PySem.Str) (P : Arguments) (Bd : PySem.Expr) (Sc : Scope) (cl : List (PySem.Str × Addr)) (pm ctv : Value) (oc ocell : Obj)
    (n : Nat)
    (hap : Apart [x, dx, st, dst, f, c', cell, sl])
    (HR : ∀ t, Spec w f 1 [.int 1 t] [(f, kla_obj name qual P Bd Sc cl pm c' ctv), (c', oc), (cell, ocell), (sl, listOf #[] n)]
      (fun v news => (∃ t, v = .str (PySem.Str.ofString "") t) ∧ news = [(f, kla_obj name qual P Bd Sc cl pm c' ctv), (c', oc), (cell, ocell), (sl, listOf #[] n)])) :
    Spec w 49 2 [.ref x] [(x, instObj 66 dx), (dx, lexDict w k1 k2 k3 k4 (.int ln tl) (.ref st) (.str ws tw) (.ref pb)), (st, instObj 66 dst), (dst, strDict w j1 j2 j3 j4 j5 (.int jln jl) .none (.str jws jw) jpb (.ref f)),
        (f, kla_obj name qual P Bd Sc cl pm c' ctv), (c', oc), (cell, ocell), (sl, listOf #[] n)]
      (fun v news => (∃ t, v = .str (PySem.Str.ofString "") t) ∧ news = [(x, instObj 66 dx), (dx, lexDict w k1 k2 k3 k4 (.int ln tl) (.ref st) (.str ws tw) (.ref pb)), (st, instObj 66 dst), (dst, strDict w j1 j2 j3 j4 j5 (.int jln jl) .none (.str jws jw) jpb (.ref f)),
        (f, kla_obj name qual P Bd Sc cl pm c' ctv), (c', oc), (cell, ocell), (sl, listOf #[] n)]) := by
  unfold Spec
  w_top off
  k_fill
  intro mean mg mb p loose dp un gd fr base g s R B X T hsz H hdp hu hret
  k_dflt (refine enter (binds := [("self", .ref x)]) (by assumption) (by assumption) (by assumption) (by assumption) (by assumption) (by k_is) (by k_is) (by k_room) (BindsTo.of_eq rfl) (locs rfl) ?_ rfl rfl rfl (by decide))
  intro L' h' F' N' l1
  (have offK' := off1_of (fun r hr => Nat.ne_of_lt (l1 r hr)))
  (try (replace l1 := allLt_of l1; simp only [AllLt, and_true] at l1))
  (try dsimp only [List.length_cons, List.length_nil, List.reverse_cons, List.reverse_nil, List.nil_append, List.cons_append])
  (try k_fold)
  repeat' (first | (k_unfold; (try dsimp only)) | (k_end; wrow_close) | walk1 | (dsimp only; walk1) | (dsimp only; k_unfold; (try dsimp only)) | (leave1; walk_say "STEP leave1"; (try dsimp only)) | fail "no step")
  all_goals (try dsimp only)
  all_goals (exact spec_end hret (by assumption) (by assumption) _ ⟨⟨_, rfl⟩, rfl⟩ (by lcg_sub))

end

section
theorem slot_cit_next : Slot "callable_iterator" "__next__" "callable_iterator.__next__" :=
  .of (owner := "callable_iterator") (n := "__next__") (by rw [typeLookup_type, builtinLookup_eq_fast]; kernel_rfl) (by decide +kernel) (by decide +kernel) (by decide +kernel)
    (by first | exact .inl (by decide +kernel) | exact .inr (by decide +kernel)) (by rw [isSubtype_type]; kernel_rfl)
theorem slot_cit_iter : Slot "callable_iterator" "__iter__" "callable_iterator.__iter__" :=
  .of (owner := "callable_iterator") (n := "__iter__") (by rw [typeLookup_type, builtinLookup_eq_fast]; kernel_rfl) (by decide +kernel) (by decide +kernel) (by decide +kernel)
    (by first | exact .inl (by decide +kernel) | exact .inr (by decide +kernel)) (by rw [isSubtype_type]; kernel_rfl)
theorem entry_cit_next : entryFor table "callable_iterator.__next__" = some Builtin.«callable_iterator.__next__» := entryFor_of_fast (by kernel_rfl)
theorem entry_cit_iter : entryFor table "callable_iterator.__iter__" = some Builtin.«dict_keyiterator.__iter__» :=
  entryFor_alias (id' := "dict_keyiterator.__iter__") (by kernel_rfl) rfl (by decide +kernel) (by kernel_rfl)
theorem args_cit_next (a : Value) : argsOk "callable_iterator.__next__" ⟨[a], []⟩ := by unfold argsOk; kernel_rfl
theorem args_cit_iter (a : Value) : argsOk "callable_iterator.__iter__" ⟨[a], []⟩ := by unfold argsOk; kernel_rfl
abbrev citObj (q : Addr) (t : Tok) : Obj := { cls := .type "callable_iterator", data := .fields #[.ref q, .str (PySem.Str.ofString "") t, .bool false] }
abbrev citOver : Obj := { cls := .type "callable_iterator", data := .fields #[.none, .none, .bool true] }
section
variable {prog : Program} {w : World} {A : Around} {E : Value → Shared → Prop} {s : Shared} {h₀ : Heap} {L it q f : Addr} {m : PySem.Str → Option Value} {news : List (Addr × Obj)} {self : Value} {t : Tok} {of : Obj} {fd : FuncData}
/-- iter on such an iterator -/
theorem citer_iter {Q : Value → Shared → Prop} (ho : s.heap.get? it = some (citObj q t)) (h : Q (.ref it) s) : wpAny (model prog w) A (pyIter (.ref it)) Q E s := by
  refine wpAny_pyIter_slot (T := "callable_iterator") ⟨_, ho, rfl⟩ slot_cit_iter (wpAny_call_entry slot_cit_iter ⟨_, ho, rfl⟩ entry_cit_iter ?_ (args_cit_iter _))
  exact wpAny_pure ⟨_, rfl, "callable_iterator", _, ⟨_, ho, rfl⟩, slot_cit_next.lookup, h⟩
theorem borrows_meth {Q : Bool → Shared → Prop} (hq : s.heap.get? q = some (methodObj (.ref f) self)) (hf : s.heap.get? f = some of) (hd : of.data = .func fd) (h : Q true s) :
    wpAny (model prog w) A (borrowsExactly (.ref q)) Q E s := by
  unfold borrowsExactly
  refine wpAny_bind (wpAny_load hq ?_)
  show wpAny _ _ (do match (← load f).data with | .func _ => pure true | _ => pure false) _ _ _
  refine wpAny_bind (wpAny_load hf ?_)
  rw [hd]
  exact wpAny_pure h
/-- what comes back of such a call: a text; the iterator stands as it stood -/
theorem citer_next {Q : Option Value → Shared → Prop} (hh : A.handled = none) (ho : s.heap.get? it = some (citObj q t)) (hq : s.heap.get? q = some (methodObj (.ref f) self)) (hf : s.heap.get? f = some of) (hd : of.data = .func fd)
    (h : codeAny (model prog w) A.in1 (.call (.ref f) ⟨[self], []⟩) (fun r s' => ∃ c tc, r = .ok (.ret (.str c tc)) ∧ s'.heap.get? it = some (citObj q t) ∧ s'.heap.get? q = some (methodObj (.ref f) self) ∧ s'.heap.get? f = some of ∧
      (c ≠ PySem.Str.ofString "" → Q (some (.str c tc)) s') ∧
      (c = PySem.Str.ofString "" → ∀ h₁ h', Heap.SameBut it s'.heap h₁ → h₁.get? it = some citOver → (∀ b o, h₁.get? b = some o → h'.get? b = some o) → Q none { s' with heap := h' })) s) :
    wpAny (model prog w) A (pyNext (.ref it)) Q E s := by
  unfold pyNext
  refine wpAny_bind (wpAny_attempt (wpAny_callSpecial?_slot (name := PySem.Str.ofString "__next__") (T := "callable_iterator") ⟨_, ho, rfl⟩ slot_cit_next
    (wpAny_call_entry slot_cit_next ⟨_, ho, rfl⟩ entry_cit_next ?_ (args_cit_next _))))
  show wpAny _ _ (field (.ref it) 2 >>= _) _ _ s
  refine wpAny_bind (wpAny_field ho rfl (x := .bool false) rfl ?_)
  show wpAny _ _ (if (Value.bool false == Value.bool true) = true then _ else _) _ _ s
  rw [if_neg (show ¬ ((Value.bool false == Value.bool true) = true) from Bool.false_ne_true)]
  show wpAny _ _ (field (.ref it) 0 >>= _) _ _ s
  refine wpAny_bind (wpAny_field ho rfl (x := .ref q) rfl ?_)
  refine wpAny_bind (wpAny_attempt ?_)
  unfold callOutOfASlot
  refine wpAny_bind (borrows_meth hq hf hd ?_)
  rw [if_pos rfl]
  refine X.x_call ?_ (by intro e; cases e)
  refine method_call hq ?_
  refine codeAny_mono h ?_
  rintro r s' ⟨c, tc, rfl, ho', hq', hf', h1, h2⟩
  refine wpAny_pure ?_
  show wpAny _ _ (field (.ref it) 2 >>= _) _ _ s'
  refine wpAny_bind (wpAny_field ho' rfl (x := .bool false) rfl ?_)
  show wpAny _ _ (if (Value.bool false == Value.bool true) = true then _ else _) _ _ s'
  rw [if_neg (show ¬ ((Value.bool false == Value.bool true) = true) from Bool.false_ne_true)]
  refine wpAny_bind (wpAny_field ho' rfl (x := .str (PySem.Str.ofString "") t) rfl ?_)
  refine wpAny_bind (wpAny_holding ?_)
  refine wpAny_eqBool_str ?_
  by_cases hc : c = PySem.Str.ofString ""
  · rw [decide_eq_true hc.symm]
    show wpAny _ _ (rule _ >>= _) _ _ s'
    refine wpAny_bind (wpAny_rule ?_)
    show wpAny _ _ ((field (.ref it) 0 >>= fun o => slotLetsGo "callable_iterator.__next__" o _ >>= fun _ => setField (.ref it) 0 .none >>= fun _ => setField (.ref it) 1 .none >>= fun _ => setField (.ref it) 2 (.bool true)) >>= fun _ => (newExc (.type "StopIteration") [] >>= raiseNew)) _ _ s'
    refine wpAny_bind (wpAny_bind (wpAny_field ho' rfl (x := .ref q) rfl ?_))
    refine wpAny_bind ?_
    unfold slotLetsGo
    refine wpAny_bind (borrows_meth hq' hf' hd ?_)
    refine wpAny_pure ?_
    refine wpAny_bind (wpAny_setField ho' rfl (by simp) ?_)
    have g1 := Heap.get?_update_self (Obj.mapFields (·.setIfInBounds 0 Value.none)) ho' rfl
    refine wpAny_bind (wpAny_setField g1 rfl (by simp) ?_)
    have g2 := Heap.get?_update_self (Obj.mapFields (·.setIfInBounds 1 Value.none)) g1 rfl
    refine wpAny_setField g2 rfl (by simp) ?_
    have g3 := Heap.get?_update_self (Obj.mapFields (·.setIfInBounds 2 (Value.bool true))) g2 rfl
    have sb := ((Heap.SameBut.update s'.heap it (Obj.mapFields (·.setIfInBounds 0 Value.none))).trans (Heap.SameBut.update _ it (Obj.mapFields (·.setIfInBounds 1 Value.none)))).trans (Heap.SameBut.update _ it (Obj.mapFields (·.setIfInBounds 2 (Value.bool true))))
    refine wpAny_bind ?_
    simp only [newExc, newTuple]
    refine wpAny_bind (wpAny_newObj_type ?_ (by size_fits))
    refine wpAny_bind (m := firstArgMember _ _) (wpAny_of_eq (a := Value.none) (by first | rfl | (simp only [firstArgMember]; rfl)) ?_)
    refine wpAny_newObj_type ?_ (by size_fits)
    simp only [raiseNew]
    refine wpAny_bind (wpAny_handled ?_)
    rw [show A.in1.handled = none from hh]
    refine wpAny_bind (wpAny_pure (wpAny_throw ?_))
    refine wpAny_bind (wpAny_isInstance (T := "StopIteration") (b := true) ⟨_, Heap.get?_push_size _ rfl, rfl⟩ isSubtype_stop ?_)
    exact wpAny_pure (h2 hc _ _ sb g3 fun b o e => Heap.get?_push_of_some _ (Heap.get?_push_of_some _ e))
  · rw [decide_eq_false (fun e => hc e.symm)]
    exact wpAny_pure ⟨_, rfl, wpAny_pure (h1 hc)⟩
end
theorem args_iter2 (a b : Value) : argsOk "iter" ⟨[a, b], []⟩ := by unfold argsOk; kernel_rfl
theorem slot_meth_call : Slot "method" "__call__" "method.__call__" :=
  .of (owner := "method") (n := "__call__") (by rw [typeLookup_type, builtinLookup_eq_fast]; kernel_rfl) (by decide +kernel) (by decide +kernel) (by decide +kernel)
    (by first | exact .inl (by decide +kernel) | exact .inr (by decide +kernel)) (by rw [isSubtype_type]; kernel_rfl)
section
variable {prog : Program} {w : World} {A : Around} {E : Value → Shared → Prop} {s : Shared} {h₀ : Heap} {L it q f : Addr} {m : PySem.Str → Option Value} {news : List (Addr × Obj)} {self : Value} {t : Tok} {of : Obj} {fd : FuncData} {env : Env}
theorem iter_meth {Q : Value → Shared → Prop} {fv : Value} (F : Fr h₀ L s.heap m) (N : News h₀ L s.heap news) (hm : (q, methodObj fv self) ∈ news)
    (h : ∀ I h', Fr h₀ L h' m → News h₀ L h' ((I, citObj q t) :: news) → (∀ p ∈ news, p.1 < I) → Q (.ref I) { s with heap := h' }) :
    wpAny (model prog w) A (PySem.call (.builtin "iter") [.ref q, .str (PySem.Str.ofString "") t]) Q E s := by
  refine call_function_entry (by decide +kernel) (by decide +kernel) kdk_entry_iter (args_iter2 _ _) ?_
  unfold Builtin.«iter»
  refine wpAny_bind (m := someArgs "iter" 1 2 _) (wpAny_of_eq (a := [Value.ref q, .str (PySem.Str.ofString "") t]) (by first | rfl | kernel_rfl!) ?_)
  show wpAny _ _ (specialOf (.ref q) "__call__" >>= _) _ _ _
  refine wpAny_bind (wpAny_specialOf (T := "method") ⟨_, (N _ hm).1, rfl⟩ slot_meth_call.lookup ?_)
  show wpAny _ _ (rule _ >>= _) _ _ _
  refine wpAny_bind (wpAny_rule ?_)
  refine wpAny_bind (wpAny_newObj_type (wpAny_pure ⟨_, rfl, h _ _ (F.push _) (News.push F N _ rfl) (fun q hq => Heap.lt_size (N q hq).1)⟩))
/-- a loop's turns: what is so ahead of each, and how many are left -/
noncomputable def Turns (P : (Nat → Shared → Prop) → Nat → Prop) : Prop := ∃ I n, P I n
theorem Turns.mk {P : (Nat → Shared → Prop) → Nat → Prop} (I : Nat → Shared → Prop) (n : Nat) (h : P I n) : Turns P := ⟨I, n, h⟩
/-- a loop whose first turn leaves it -/
theorem Turns.once {s : Shared} {G : (Nat → Shared → Prop) → Nat → Shared → Prop} (h : G (fun k s' => k = 1 ∧ s' = s) 1 s) : Turns fun I n => I n s ∧ ∀ k s₃, I k s₃ → G I k s₃ :=
  ⟨fun k s' => k = 1 ∧ s' = s, 1, ⟨rfl, rfl⟩, fun k s₃ (e : k = 1 ∧ s₃ = s) => by obtain ⟨rfl, rfl⟩ := e; exact h⟩
/-- a turn's end: one turn less is left -/
noncomputable def Again (I : Nat → Shared → Prop) (k : Nat) (s : Shared) : Prop := ∃ j, j < k ∧ I j s
theorem Again.mk {I : Nat → Shared → Prop} {k : Nat} {s : Shared} (j : Nat) (hj : j < k) (h : I j s) : Again I k s := ⟨j, hj, h⟩
theorem For_cit {Q : Flow → Shared → Prop} {x : PySem.Str} {px pos : Pos} {iter : PySem.Expr} {body : List Stmt}
    (h : wpAny (model prog w) A (eval iter env) (fun xv s₁ => wpAny (model prog w) A (pyIter xv) (fun it s₂ => Turns fun I n => I n s₂ ∧ ∀ k s₃, I k s₃ →
      wpAny (model prog w) A (pyNext it) (fun r s₄ => match r with
        | none => Q .next s₄
        | some v => wpAny (model prog w) A (storeName env x v) (fun _ s₅ => wpAny (model prog w) A (execs body env) (fun fl s₆ => match fl with
          | .next | .cont => Again I k s₆
          | .brk => Q .next s₆
          | .ret v => Q (.ret v) s₆) E s₅) E s₄) E s₃) E s₁) E s)
    (hs : ∀ x, foldedSetIterable iter env x = pure x := by intro _; rfl)
    (hE : PassesOwn (model prog w) A env E := by passes_own) :
    wpAny (model prog w) A (exec (.For (.Name x px) iter body [] pos) env) Q E s := by
  refine wpAny_For (wpAny_mono h (fun xv s₁ h₁ => wpAny_mono h₁ (fun it s₂ h₂ => ?_) fun _ _ e => e) fun _ _ e => e) hs
  obtain ⟨I, n, h0, step⟩ := h₂
  refine codeAny_forLoop (R := fun r s' => match r with | .ok f => Q f s' | .error e => cameBackBy (model prog w) A env E e s') I (fun k s₃ hk => ?_) n h0
  refine wpAny_passesOwn hE (wpAny_mono (step k s₃ hk) (fun r s₄ h₄ => ?_) fun _ _ e => e)
  cases r with
  | none => exact wpAny_execs_nil h₄
  | some v =>
    refine wpAny_passesOwn hE (wpAny_mono (wpAny_assign_Name h₄) (fun _ s₅ h₅ => ?_) fun _ _ e => e)
    refine wpAny_passesOwn hE (wpAny_mono h₅ (fun fl s₆ h₆ => ?_) fun _ _ e => e)
    cases fl <;> exact h₆
end
theorem fn_of {K : Frag} {f : Addr} (hf : fnIn K f = true) : ∃ of fd, K.lookup f = some of ∧ of.data = Data.func fd := by
  unfold fnIn at hf
  split at hf
  · rename_i e
    exact ⟨_, _, e, rfl⟩
  · cases hf
theorem upd_mem {d : Addr} {o o' : Obj} {l l' : List (Addr × Obj)} (U : Upd d o o' l l') : (d, o) ∈ l := by
  obtain ⟨pre, post, rfl, _⟩ := U.split
  exact List.mem_append.mpr (.inr (.head _))
theorem news_upd {h₀ h h' : Heap} {L d : Addr} {o o' : Obj} {l l' : List (Addr × Obj)} (U : Upd d o o' l l') (N : News h₀ L h l) (hs : Heap.SameBut d h h') (ho : h'.get? d = some o') : News h₀ L h' l' := by
  obtain ⟨pre, post, rfl, rfl, a, b⟩ := U.split
  exact news_set N a b hs ho
section
variable {w : World} {d : Nat} {x it q : Addr} {t : Tok} {pre : List (Addr × Obj)} {Post : Value → List (Addr × Obj) → Prop}
    {mean : ExcName → Option Value} {mg mb : PySem.Str → Option Value} {p : Program} {loose : List PySem.Str} {dp un : Nat} {gd : Option (List Code)} {env : Env} {outer : List Env}
    {A₀ : Around} {base h₀ : Heap} {L : Addr} {m : PySem.Str → Option Value} {news rest rest2 : List (Addr × Obj)} {s : Shared} {E : Value → Shared → Prop}
theorem next_some {Q : Option Value → Shared → Prop} {c : PySem.Str} {tc : Tok}
    (S : Spec w 49 d [.ref x] pre Post) (B : Below A₀ base outer h₀) (F : Fr h₀ L s.heap m) (X : (hd.heap_19 w.params).In h₀) (N : News h₀ L s.heap news) (T : Top p loose mean mg mb h₀)
    (hf : env.frame = some L) (hke : env.scope.kind = .function) (hfn : fnIn (hd.heap_19 w.params) 49 = true)
    (hpick : Pick pre news rest) (hi : (it, citObj q t) ∈ rest) (hq : (q, methodObj (.ref 49) (.ref x)) ∈ rest) (hap : AllOff pre rest) (hd : dp + d < recursionLimit) (hu : un + 1 + 8 * d < cLine)
    (hc : c ≠ PySem.Str.ofString "") (hP : ∀ v news', Post v news' → v = .str c tc)
    (h : ∀ news' h' tk', Post (.str c tc) news' → Fr h₀ L h' m → News h₀ L h' (news' ++ rest) → (∀ q ∈ news', LCg.Off1 q.1 rest) → Q (some (.str c tc)) { s with heap := h', toks := tk' }) :
    wpAny (model PySem.Challenge.rw_sw0028_01.row.prog w) (aro dp un gd (env :: outer)) (pyNext (.ref it)) Q E s := by
  obtain ⟨of, fd, ho, hd'⟩ := fn_of hfn
  have hm := hpick.sub
  refine citer_next rfl (N _ (hm.2 _ hi)).1 (N _ (hm.2 _ hq)).1 (F.keep _ _ (X _ _ ho)) hd' ?_
  refine spec_use (un := un + 1) S B F X N T hf hke hpick.sub.1 hpick.sub.2 hap.ne hd hu ?_
  intro v news' h' tk' hp F' N' off
  have e := hP v news' hp
  subst e
  exact ⟨c, tc, rfl, (N' _ (List.mem_append.mpr (.inr hi))).1, (N' _ (List.mem_append.mpr (.inr hq))).1, F'.keep _ _ (X _ _ ho), fun _ => h _ _ _ hp F' N' off, fun e => absurd e hc⟩
theorem next_none {Q : Option Value → Shared → Prop}
    (S : Spec w 49 d [.ref x] pre Post) (B : Below A₀ base outer h₀) (F : Fr h₀ L s.heap m) (X : (hd.heap_19 w.params).In h₀) (N : News h₀ L s.heap news) (T : Top p loose mean mg mb h₀)
    (hf : env.frame = some L) (hke : env.scope.kind = .function) (hfn : fnIn (hd.heap_19 w.params) 49 = true)
    (hpick : Pick pre news rest) (hU : Upd it (citObj q t) citOver rest rest2) (hq : (q, methodObj (.ref 49) (.ref x)) ∈ rest) (hap : AllOff pre rest) (hd : dp + d < recursionLimit) (hu : un + 1 + 8 * d < cLine)
    (hP : ∀ v news', Post v news' → ∃ tc, v = .str (PySem.Str.ofString "") tc)
    (h : ∀ v news' h' tk', Post v news' → Fr h₀ L h' m → News h₀ L h' (news' ++ rest2) → Q none { s with heap := h', toks := tk' }) :
    wpAny (model PySem.Challenge.rw_sw0028_01.row.prog w) (aro dp un gd (env :: outer)) (pyNext (.ref it)) Q E s := by
  obtain ⟨of, fd, ho, hd'⟩ := fn_of hfn
  have hm := hpick.sub
  have hi := upd_mem hU
  refine citer_next rfl (N _ (hm.2 _ hi)).1 (N _ (hm.2 _ hq)).1 (F.keep _ _ (X _ _ ho)) hd' ?_
  refine spec_use (un := un + 1) S B F X N T hf hke hpick.sub.1 hpick.sub.2 hap.ne hd hu ?_
  intro v news' h' tk' hp F' N' off
  obtain ⟨tc, rfl⟩ := hP v news' hp
  refine ⟨_, tc, rfl, (N' _ (List.mem_append.mpr (.inr hi))).1, (N' _ (List.mem_append.mpr (.inr hq))).1, F'.keep _ _ (X _ _ ho), fun e => absurd rfl e, fun _ h₁ h₂ hs g ext => ?_⟩
  have z := N' _ (List.mem_append.mpr (.inr hi))
  have F1 := F'.change hs z.2.1 z.2.2
  have N1 : News h₀ L h₁ (news' ++ rest2) := by
    refine news_upd (d := it) (o := citObj q t) ?_ N' hs g
    have : ∀ l : List (Addr × Obj), (∀ z ∈ l, z ∈ news') → Upd it (citObj q t) citOver (l ++ rest) (l ++ rest2) := by
      intro l
      induction l with
      | nil => exact fun _ => hU
      | cons a l ih => exact fun hl => .tail (fun e => off1_ne (off _ (hl a (.head _))) hi e.symm) (ih fun z hz => hl z (.tail _ hz))
    exact this _ fun _ hz => hz
  obtain ⟨oL, a1, a2, hL, a3⟩ := F1.ns
  exact h _ news' _ _ hp ⟨⟨oL, a1, a2, ext _ _ hL, a3⟩, fun b o e => ext _ _ (F1.keep b o e), F1.above⟩ fun p hp => ⟨ext _ _ (N1 p hp).1, (N1 p hp).2⟩
end

end

section
theorem words_lex : True := by
  k_with_none
  k_with "k_room" => (first | decide | ((try simp only [depth_under_make, depth_under_kw, depth_in1, depth_deeper, depth_caller]); lia))
  k_with "eval ListComp" => ((k_here; k_dflt (refine LCg.ListComp_U (F₀ := by k_asm) (by with_unfolding_all rfl) (by decide) (by rfl) (by decide) (by rfl) ?_); k_dflt lcg_toSrc))
  k_with "exec Assign cons ListComp" => ((k_here; k_dflt (refine LCg.Assign_ListComp_U (F₀ := by k_asm) (by rfl) (by with_unfolding_all rfl) (by with_unfolding_all rfl) (by decide) (by rfl) (by decide) (by rfl) (by rfl) (by rfl) ?_); k_dflt lcg_toSrc))
  k_with "CompSrc" => ((k_here; k_dflt (first | (refine LCg.CompSrc.ledger (by rfl) (by k_asm) (by k_asm) (by k_mem) (by first | exact Nat.le_of_ble_eq_true rfl | size_fits) ?_; intro g'; lcg_lit) | (refine LCg.CompSrc.range (by rfl) (by k_asm) (by k_asm) (by assumption) (by first | decide | rfl) (by first | rfl | decide) (by first | exact Nat.le_of_ble_eq_true rfl | size_fits) ?_; intro g'; lcg_lit))))
  k_with "binaryOp Pow int int" => ((k_here; with_reducible refine pow_pw ?kb1 ?kb2 ?_; (case kb1 => assumption); (case kb2 => assumption)))
  k_with "binaryOp Mult int int" => ((k_here; with_reducible refine mul_pw ?kb1 ?kb2 ?_; (case kb1 => assumption); (case kb2 => assumption)))
  k_with "binaryOp BitXor int int" => ((k_here; with_reducible refine xor_xr ?_))
  k_with "CompRest" => ((with_unfolding_all first | (refine LCg.CompRest.succ ?_; intro v' I' oI' C' oC' D' m' h' tk' E' hv' hC' hx' F' N' off' ne'; (first | lcg_open hv' | (obtain ⟨t9', hv9'⟩ := hv'; subst hv9')); (obtain ⟨neIC', neID', neCD'⟩ := ne')) | refine LCg.CompRest.zero ?_))
  k_with "lcg_off" => (with_reducible assumption)
  k_with "CompEnd" => (lcg_end)
  k_with "eval Name" => ((k_here; k_dflt (first
  | (refine' nameX_L ?F ?v ?_ ?a ?b; (case F => k_asm); (case a => rfl); (case b => rfl); (case v => rfl); k_whole)
  | (refine' nameX_C ?N ?c ?m ?d ?_ ?a ?b; (case a => rfl); (case b => rfl); (case N => k_asm); (case c => rfl); (case m => k_mem); (case d => k_asm); k_whole)
  | (refine' nameX_K ?F ?X ?T ?e ?_ ?a ?b; (case F => k_asm); (case X => k_asm); (case T => k_asm); (case a => rfl); (case b => rfl); (case e => k_is); k_whole))))
  k_with "eval Name" => ((k_here; (with_reducible show wpAny _ _ (eval (PySem.Expr.Name _ _) (compEnvC _ _ _ _)) _ _ _); k_dflt (first
  | (refine LCgL.ld_own (by k_asm) (by k_mem) (by assumption) (by assumption) ?_)
  | (refine' lcf_cell ?N ?c ?m ?d ?_ ?a ?b; (case a => rfl); (case b => rfl); (case N => k_asm); (case c => rfl); (case m => k_mem); (case d => k_asm); k_whole)
  | (refine' lcf_free ?N ?c ?m ?d ?_ ?a ?b; (case a => rfl); (case b => rfl); (case N => k_asm); (case c => rfl); (case m => k_mem); (case d => k_asm); k_whole)
  | (refine LCgL.ld_global (by k_asm) (by k_asm) (by k_asm) (by k_is) ?_))))
  k_with "FinE" => (((unfold LCg.FinE); intro D' h' tk' F' N' oq9'; (try simp only [List.nil_append, List.cons_append] at N'); (try dsimp only)))
  k_with "FinA" => (((unfold LCg.FinA); intro D' h' tk' F' N' oq9'; (try simp only [List.nil_append, List.cons_append] at N'); (try dsimp only)))
  k_with "k_ne" => (((try dsimp only); first
  | (with_reducible assumption)
  | (with_reducible exact Ne.symm (by assumption))
  | (refine' off1_ne ?nh ?nm; (case nh => with_reducible assumption); (case nm => k_mem))
  | (refine' off1_ne' ?nh ?nm; (case nh => with_reducible assumption); (case nm => k_mem))
  | (refine' off3_I ?nh ?nm; (case nh => with_reducible assumption); (case nm => k_mem))
  | (refine' off3_C ?nh ?nm; (case nh => with_reducible assumption); (case nm => k_mem))
  | (refine' off3_D ?nh ?nm; (case nh => with_reducible assumption); (case nm => k_mem))
  | (refine' off3_I' ?nh ?nm; (case nh => with_reducible assumption); (case nm => k_mem))
  | (refine' off3_C' ?nh ?nm; (case nh => with_reducible assumption); (case nm => k_mem))
  | (refine' off3_D' ?nh ?nm; (case nh => with_reducible assumption); (case nm => k_mem))
  | (refine' two_ne ?nh ?nm; (case nh => with_reducible assumption); (case nm => tb_start))
  | (refine' two_ne' ?nh ?nm; (case nh => with_reducible assumption); (case nm => tb_start))
  | (refine neN ?_; lia)))
  k_with "tb_start" => (first | (refine' Two.head ?th; (case th => k_mem)) | (refine' Two.tail ?tw; (case tw => tb_start)))
  k_with "call builtin:list.append" => ((k_here; (with_reducible show wpAny _ _ (PySem.call (Value.builtin _) [Value.ref _, _]) _ _ _); k_dflt (refine append_lit (by k_asm) (by k_asm) (by kl_lit) (by k_upd) (by kl_room) ?_); kl_rest))
  k_with "subscriptTail" => ((k_here; (with_reducible show wpAny _ _ (subscriptTail _ _ (Value.ref _) (Value.int _ _)) _ _ _); k_dflt (refine item_N (by k_asm) (by k_mem) (by decide) (by decide) rfl ?_ (by with_unfolding_all rfl))))
  k_with "subscriptTail Name Name ref int" => ((walk_at "subscriptTail"))
  k_with "subscriptTail Name Constant ref int" => ((walk_at "subscriptTail"))
  k_with "getItem ref int" => ((k_here; k_dflt (refine getItem_N (by k_asm) (by k_mem) (by decide) (by decide) rfl ?_)))
  k_with "getMethod ref" => ((k_here; (with_reducible show wpAny _ _ (getMethod (Value.ref _) (PySem.Str.ofString "read") _) _ _ _); k_dflt (refine kmu_own (by k_asm) (by k_asm) (by k_inst) (by k_is) (by k_is) ?_)))
  k_with "And" => (((with_reducible show FnAt _ _ ∧ _); refine ⟨FnAt.of (by k_asm) (by k_mem), ?_⟩; (try dsimp only [List.nil_append, List.cons_append])))
  k_with "k_mem" => (first | exact List.Mem.head _ | exact mem1 | exact mem2 | exact mem3 | exact mem4 | exact mem5 | exact mem6 | exact mem7 | (refine' mem8 ?_; k_mem))
  k_with "lcg_sub" => (first | exact sub_nil | (refine sub_cons (by k_mem) ?_; lcg_sub))
  k_with "kpt_turns" => (first | exact Take.head | exact tk1 | exact tk2 | exact tk3 | (refine' tk4 ?tk; (case tk => kpt_turns)))
  k_with "tb_rel" => (first | exact Pick.nil | (refine' Pick.cons ?pt ?pk; (case pt => kpt_turns); (case pk => tb_rel)))
  k_with "ktm_same2" => (first | exact True.intro | (refine off1_cons (by k_ne) ?_; ktm_same2))
  k_with "ktr_rel" => (first | exact True.intro | (refine And.intro (by ktm_same2) ?_; ktr_rel))
  k_with "ktr_room" => (first | decide | ((try simp only [depth_under_make, depth_under_kw, depth_in1, depth_deeper, depth_caller] at *); lia))
  k_with "truthy ref" => ((k_here; (with_reducible show wpAny _ _ (truthy (Value.ref _)) _ _ _); k_dflt (first
  | (refine truthy_cons (by k_asm) (by k_mem) (by with_reducible assumption) ?_)
  | (refine truthy_nil (by k_asm) (by k_mem) ?_))))
  k_with "call builtin:list.pop" => ((k_here; (with_reducible show wpAny _ _ (PySem.call (Value.builtin _) [Value.ref _, Value.int 0 _]) _ _ _); k_dflt (refine pop0_cons (by k_asm) (by k_asm) (by k_upd) (by with_reducible assumption) ?_); kl_rest))
  k_with "execs cons" => ((k_here; k_fold))
  exact True.intro

/-- the number of the line behind a sign -/
noncomputable def bump (c : PySem.Str) (ln : Int) : Int := if c = PySem.Str.ofString "\n" then ln + 1 else ln
theorem apart_left : ∀ {l r : List Addr}, Apart (l ++ r) → Apart l
  | [], _, _ => True.intro
  | _ :: _, _, h => ⟨fun x hx => h.1 x (List.mem_append_left _ hx), apart_left h.2⟩
theorem apart8 {a b c d e f g h i : Addr} (p : Apart [a, b, c, d, e, f, g, h, i]) : Apart [a, b, c, d, e, f, g, h] := apart_left (l := [a, b, c, d, e, f, g, h]) (r := [i]) p
/-- the number of the line behind these signs -/
noncomputable def lnAfter : Int → List Value → Int
  | ln, [] => ln
  | ln, .str c _ :: vs => lnAfter (bump c ln) vs
  | ln, _ :: vs => lnAfter ln vs
section
variable {w : World} {x dx st dst f c' cell sl pb : Addr} {k1 k2 k3 k4 j1 j2 j3 j4 j5 tw jl jw : Tok} {jln : Int} {jws : PySem.Str} {jpb : Value}
    {name qual : PySem.Str} {P : Arguments} {Bd : PySem.Expr} {Sc : Scope} {cl : List (PySem.Str × Addr)} {pm ctv : Value} {oc ocell : Obj}
theorem read_cons (hap : Apart [x, dx, st, dst, f, c', cell, sl, pb]) (HR : Lam w f c' cell sl name qual P Bd Sc cl pm ctv oc ocell) {tl : Tok} {ln : Int} {c : PySem.Str} {tc : Tok} {rest : List Value} {n : Nat} (hz : rest.length ≤ 1000) :
    Spec w 49 2 [.ref x] [(x, instObj 66 dx), (dx, lexDict w k1 k2 k3 k4 (.int ln tl) (.ref st) (.str (PySem.Str.ofString "\n\t\r ") tw) (.ref pb)), (st, instObj 66 dst), (dst, strDict w j1 j2 j3 j4 j5 (.int jln jl) .none (.str jws jw) jpb (.ref f)),
        (f, kla_obj name qual P Bd Sc cl pm c' ctv), (c', oc), (cell, ocell), (sl, listOf (.str c tc :: rest).toArray n)]
      (fun v news => v = .str c tc ∧ ∃ tl', news = [(x, instObj 66 dx), (dx, lexDict w k1 k2 k3 k4 (.int (bump c ln) tl') (.ref st) (.str (PySem.Str.ofString "\n\t\r ") tw) (.ref pb)), (st, instObj 66 dst), (dst, strDict w j1 j2 j3 j4 j5 (.int jln jl) .none (.str jws jw) jpb (.ref f)),
        (f, kla_obj name qual P Bd Sc cl pm c' ctv), (c', oc), (cell, ocell), (sl, listOf rest.toArray (n + 1))]) :=
  read_spec w x dx st dst f c' cell sl pb k1 k2 k3 k4 j1 j2 j3 j4 j5 tl tw jl jw ln jln _ jws jpb name qual P Bd Sc cl pm ctv oc ocell c tc rest n (apart8 hap) fun t => HR.1 t c tc rest n hz
theorem read_nil (hap : Apart [x, dx, st, dst, f, c', cell, sl, pb]) (HR : Lam w f c' cell sl name qual P Bd Sc cl pm ctv oc ocell) {tl : Tok} {ln : Int} {n : Nat} :
    Spec w 49 2 [.ref x] [(x, instObj 66 dx), (dx, lexDict w k1 k2 k3 k4 (.int ln tl) (.ref st) (.str (PySem.Str.ofString "\n\t\r ") tw) (.ref pb)), (st, instObj 66 dst), (dst, strDict w j1 j2 j3 j4 j5 (.int jln jl) .none (.str jws jw) jpb (.ref f)),
        (f, kla_obj name qual P Bd Sc cl pm c' ctv), (c', oc), (cell, ocell), (sl, listOf #[] n)]
      (fun v news => (∃ t, v = .str (PySem.Str.ofString "") t) ∧ news = [(x, instObj 66 dx), (dx, lexDict w k1 k2 k3 k4 (.int ln tl) (.ref st) (.str (PySem.Str.ofString "\n\t\r ") tw) (.ref pb)), (st, instObj 66 dst), (dst, strDict w j1 j2 j3 j4 j5 (.int jln jl) .none (.str jws jw) jpb (.ref f)),
        (f, kla_obj name qual P Bd Sc cl pm c' ctv), (c', oc), (cell, ocell), (sl, listOf #[] n)]) :=
  read_spec0 w x dx st dst f c' cell sl pb k1 k2 k3 k4 j1 j2 j3 j4 j5 tl tw jl jw ln jln _ jws jpb name qual P Bd Sc cl pm ctv oc ocell n (apart8 hap) fun t => HR.2 t n
end
section
variable {w : World} {x dx st dst f c' cell sl pb it q : Addr} {k1 k2 k3 k4 j1 j2 j3 j4 j5 tw jl jw tl : Tok} {jln ln : Int} {jws : PySem.Str} {jpb : Value}
    {name qual : PySem.Str} {P : Arguments} {Bd : PySem.Expr} {Sc : Scope} {cl : List (PySem.Str × Addr)} {pm ctv : Value} {oc ocell : Obj} {c : PySem.Str} {tc t : Tok} {rest : List Value} {n : Nat}
    {mean : ExcName → Option Value} {mg mb : PySem.Str → Option Value} {p : Program} {loose : List PySem.Str} {dp un : Nat} {gd : Option (List Code)} {env : Env} {outer : List Env}
    {A₀ : Around} {base h₀ : Heap} {L : Addr} {m : PySem.Str → Option Value} {news ol ol2 : List (Addr × Obj)} {s : Shared} {E : Value → Shared → Prop}
theorem read_at {Q : Value → Shared → Prop}
    (h : ∀ tl' h' tk', Fr h₀ L h' m → News h₀ L h' ((x, instObj 66 dx) :: (dx, lexDict w k1 k2 k3 k4 (.int (bump c ln) tl') (.ref st) (.str (PySem.Str.ofString "\n\t\r ") tw) (.ref pb)) :: (st, instObj 66 dst) :: (dst, strDict w j1 j2 j3 j4 j5 (.int jln jl) .none (.str jws jw) jpb (.ref f)) :: (f, kla_obj name qual P Bd Sc cl pm c' ctv) :: (c', oc) :: (cell, ocell) :: (sl, listOf rest.toArray (n + 1)) :: ol) → Q (.str c tc) { s with heap := h', toks := tk' })
    (hap : Apart [x, dx, st, dst, f, c', cell, sl, pb] := by assumption) (HR : Lam w f c' cell sl name qual P Bd Sc cl pm ctv oc ocell := by assumption)
    (B : Below A₀ base outer h₀ := by k_asm) (F : Fr h₀ L s.heap m := by k_asm) (X : (hd.heap_19 w.params).In h₀ := by k_asm) (N : News h₀ L s.heap news := by k_asm) (T : Top p loose mean mg mb h₀ := by k_asm)
    (hf : env.frame = some L := by exact rfl) (hke : env.scope.kind = .function := by exact rfl)
    (hpick : Pick [(x, instObj 66 dx), (dx, lexDict w k1 k2 k3 k4 (.int ln tl) (.ref st) (.str (PySem.Str.ofString "\n\t\r ") tw) (.ref pb)), (st, instObj 66 dst), (dst, strDict w j1 j2 j3 j4 j5 (.int jln jl) .none (.str jws jw) jpb (.ref f)), (f, kla_obj name qual P Bd Sc cl pm c' ctv), (c', oc), (cell, ocell), (sl, listOf (.str c tc :: rest).toArray n)] news ol := by tb_rel)
    (hap2 : AllOff [(x, instObj 66 dx), (dx, lexDict w k1 k2 k3 k4 (.int ln tl) (.ref st) (.str (PySem.Str.ofString "\n\t\r ") tw) (.ref pb)), (st, instObj 66 dst), (dst, strDict w j1 j2 j3 j4 j5 (.int jln jl) .none (.str jws jw) jpb (.ref f)), (f, kla_obj name qual P Bd Sc cl pm c' ctv), (c', oc), (cell, ocell), (sl, listOf (.str c tc :: rest).toArray n)] ol := by ktr_rel)
    (hz : rest.length ≤ 1000 := by (try simp only [List.length_cons]); lia) (hd : dp + 2 < recursionLimit := by ktr_room) (hu : un + 8 * 2 < cLine := by ktr_room) :
    wpAny (model PySem.Challenge.rw_sw0028_01.row.prog w) (aro dp un gd (env :: outer)) (PySem.call (.ref 49) [.ref x]) Q E s :=
  spec_at (read_cons hap HR hz) B F X N T hf hke hpick hap2 hd hu fun v n' h' tk' pp F' N' _ => by
    obtain ⟨rfl, tl', rfl⟩ := pp
    exact h tl' h' tk' F' N'
theorem some_at {Q : Option Value → Shared → Prop}
    (h : ∀ tl' h' tk', Fr h₀ L h' m → News h₀ L h' ((x, instObj 66 dx) :: (dx, lexDict w k1 k2 k3 k4 (.int (bump c ln) tl') (.ref st) (.str (PySem.Str.ofString "\n\t\r ") tw) (.ref pb)) :: (st, instObj 66 dst) :: (dst, strDict w j1 j2 j3 j4 j5 (.int jln jl) .none (.str jws jw) jpb (.ref f)) :: (f, kla_obj name qual P Bd Sc cl pm c' ctv) :: (c', oc) :: (cell, ocell) :: (sl, listOf rest.toArray (n + 1)) :: ol) → Q (some (.str c tc)) { s with heap := h', toks := tk' })
    (hap : Apart [x, dx, st, dst, f, c', cell, sl, pb] := by assumption) (HR : Lam w f c' cell sl name qual P Bd Sc cl pm ctv oc ocell := by assumption)
    (B : Below A₀ base outer h₀ := by k_asm) (F : Fr h₀ L s.heap m := by k_asm) (X : (hd.heap_19 w.params).In h₀ := by k_asm) (N : News h₀ L s.heap news := by k_asm) (T : Top p loose mean mg mb h₀ := by k_asm)
    (hf : env.frame = some L := by exact rfl) (hke : env.scope.kind = .function := by exact rfl)
    (hpick : Pick [(x, instObj 66 dx), (dx, lexDict w k1 k2 k3 k4 (.int ln tl) (.ref st) (.str (PySem.Str.ofString "\n\t\r ") tw) (.ref pb)), (st, instObj 66 dst), (dst, strDict w j1 j2 j3 j4 j5 (.int jln jl) .none (.str jws jw) jpb (.ref f)), (f, kla_obj name qual P Bd Sc cl pm c' ctv), (c', oc), (cell, ocell), (sl, listOf (.str c tc :: rest).toArray n)] news ol := by tb_rel) (hi : (it, citObj q t) ∈ ol := by k_mem) (hq : (q, methodObj (.ref 49) (.ref x)) ∈ ol := by k_mem)
    (hap2 : AllOff [(x, instObj 66 dx), (dx, lexDict w k1 k2 k3 k4 (.int ln tl) (.ref st) (.str (PySem.Str.ofString "\n\t\r ") tw) (.ref pb)), (st, instObj 66 dst), (dst, strDict w j1 j2 j3 j4 j5 (.int jln jl) .none (.str jws jw) jpb (.ref f)), (f, kla_obj name qual P Bd Sc cl pm c' ctv), (c', oc), (cell, ocell), (sl, listOf (.str c tc :: rest).toArray n)] ol := by ktr_rel)
    (hz : rest.length ≤ 1000 := by (try simp only [List.length_cons]); lia) (hc : c ≠ PySem.Str.ofString "" := by first | (with_reducible assumption) | decide) (hfn : fnIn (hd.heap_19 w.params) 49 = true := by k_is)
    (hd : dp + 2 < recursionLimit := by ktr_room) (hu : un + 1 + 8 * 2 < cLine := by ktr_room) :
    wpAny (model PySem.Challenge.rw_sw0028_01.row.prog w) (aro dp un gd (env :: outer)) (pyNext (.ref it)) Q E s :=
  next_some (read_cons hap HR hz) B F X N T hf hke hfn hpick hi hq hap2 hd hu hc (fun _ _ pp => pp.1) fun n' h' tk' pp F' N' _ => by
    obtain ⟨_, tl', rfl⟩ := pp
    exact h tl' h' tk' F' N'
theorem none_at {Q : Option Value → Shared → Prop}
    (h : ∀ h' tk', Fr h₀ L h' m → News h₀ L h' ((x, instObj 66 dx) :: (dx, lexDict w k1 k2 k3 k4 (.int ln tl) (.ref st) (.str (PySem.Str.ofString "\n\t\r ") tw) (.ref pb)) :: (st, instObj 66 dst) :: (dst, strDict w j1 j2 j3 j4 j5 (.int jln jl) .none (.str jws jw) jpb (.ref f)) :: (f, kla_obj name qual P Bd Sc cl pm c' ctv) :: (c', oc) :: (cell, ocell) :: (sl, listOf #[] n) :: ol2) → Q none { s with heap := h', toks := tk' })
    (hap : Apart [x, dx, st, dst, f, c', cell, sl, pb] := by assumption) (HR : Lam w f c' cell sl name qual P Bd Sc cl pm ctv oc ocell := by assumption)
    (B : Below A₀ base outer h₀ := by k_asm) (F : Fr h₀ L s.heap m := by k_asm) (X : (hd.heap_19 w.params).In h₀ := by k_asm) (N : News h₀ L s.heap news := by k_asm) (T : Top p loose mean mg mb h₀ := by k_asm)
    (hf : env.frame = some L := by exact rfl) (hke : env.scope.kind = .function := by exact rfl)
    (hpick : Pick [(x, instObj 66 dx), (dx, lexDict w k1 k2 k3 k4 (.int ln tl) (.ref st) (.str (PySem.Str.ofString "\n\t\r ") tw) (.ref pb)), (st, instObj 66 dst), (dst, strDict w j1 j2 j3 j4 j5 (.int jln jl) .none (.str jws jw) jpb (.ref f)), (f, kla_obj name qual P Bd Sc cl pm c' ctv), (c', oc), (cell, ocell), (sl, listOf #[] n)] news ol := by tb_rel) (hU : Upd it (citObj q t) citOver ol ol2 := by k_upd) (hq : (q, methodObj (.ref 49) (.ref x)) ∈ ol := by k_mem)
    (hap2 : AllOff [(x, instObj 66 dx), (dx, lexDict w k1 k2 k3 k4 (.int ln tl) (.ref st) (.str (PySem.Str.ofString "\n\t\r ") tw) (.ref pb)), (st, instObj 66 dst), (dst, strDict w j1 j2 j3 j4 j5 (.int jln jl) .none (.str jws jw) jpb (.ref f)), (f, kla_obj name qual P Bd Sc cl pm c' ctv), (c', oc), (cell, ocell), (sl, listOf #[] n)] ol := by ktr_rel) (hfn : fnIn (hd.heap_19 w.params) 49 = true := by k_is)
    (hd : dp + 2 < recursionLimit := by ktr_room) (hu : un + 1 + 8 * 2 < cLine := by ktr_room) :
    wpAny (model PySem.Challenge.rw_sw0028_01.row.prog w) (aro dp un gd (env :: outer)) (pyNext (.ref it)) Q E s :=
  next_none (read_nil hap HR) B F X N T hf hke hfn hpick hU hq hap2 hd hu (fun _ _ pp => pp.1) fun v n' h' tk' pp F' N' => by
    obtain ⟨_, rfl⟩ := pp
    exact h h' tk' F' N'
end
theorem in_str_b {prog : Program} {w : World} {A : Around} {E : Value → Shared → Prop} {s : Shared} {x y : PySem.Str} {t u : Tok} {b : Bool} {Q : Value → Shared → Prop} (hb : (!(Builtin.Str.occurrences x y 0 x.length 1).isEmpty) = b) (h : Q (.bool b) s) :
    wpAny (model prog w) A (compareOp .In (.str y u) (.str x t)) Q E s := in_str (by rw [hb]; exact h)
theorem Fr.of_eq {h₀ h : Heap} {L : Addr} {m m' : PySem.Str → Option Value} (F : Fr h₀ L h m) (e : ∀ y, m y = m' y) : Fr h₀ L h m' := by
  have : m = m' := funext e
  subst this
  exact F
/-- a text and these behind it -/
noncomputable def catS (a : PySem.Str) (ws : List PySem.Str) : PySem.Str := ws.foldl (fun a c => a ++ c) a
/-- what is so ahead of each turn of a token's inner loop -/
inductive InvQ (w : World) (x dx st dst f c' cell sl pb : Addr) (k1 k2 k3 k4 j1 j2 j3 j4 j5 tw jl jw : Tok) (jln : Int) (jws : PySem.Str) (jpb : Value)
    (name qual : PySem.Str) (P : Arguments) (Bd : PySem.Expr) (Sc : Scope) (cl : List (PySem.Str × Addr)) (pm ctv : Value) (oc ocell : Obj) (g : Heap) (s : Shared) (e : Nat)
    (Enc : List PySem.Str → List Value → Prop) (stop : Value) (rest : List Value) (word : PySem.Str) (lnE : Int) (L I q : Addr) (tq : Tok) : Nat → Shared → Prop
  | mk (ws vs tok tt ln tl n ch hp tk) : Enc ws vs → PySem.Str.length tok + List.length ws ≤ 1000 → catS tok ws = word → lnAfter ln vs = lnE → List.length (vs ++ stop :: rest) + 5 ≤ 1000 →
    Fr g L hp (fun y => if y = PySem.Str.ofString "ch" then some ch else if y = PySem.Str.ofString "token" then some (.str tok tt) else if y = PySem.Str.ofString "fiter" then some (.ref I) else List.lookup y [(PySem.Str.ofString "self", .ref x)].reverse) →
    News g L hp [(x, instObj 66 dx), (dx, lexDict w k1 k2 k3 k4 (.int ln tl) (.ref st) (.str (PySem.Str.ofString "\n\t\r ") tw) (.ref pb)), (st, instObj 66 dst), (dst, strDict w j1 j2 j3 j4 j5 (.int jln jl) .none (.str jws jw) jpb (.ref f)),
        (f, kla_obj name qual P Bd Sc cl pm c' ctv), (c', oc), (cell, ocell), (sl, listOf (vs ++ stop :: rest).toArray n), (I, citObj q tq), (q, methodObj (.ref 49) (.ref x)), (pb, listOf #[] e)] →
    InvQ w x dx st dst f c' cell sl pb k1 k2 k3 k4 j1 j2 j3 j4 j5 tw jl jw jln jws jpb name qual P Bd Sc cl pm ctv oc ocell g s e Enc stop rest word lnE L I q tq (List.length ws) { s with heap := hp, toks := tk }
theorem eq_str_ne {prog : Program} {w : World} {A : Around} {E : Value → Shared → Prop} {s : Shared} {x y : PySem.Str} {t u : Tok} {Q : Value → Shared → Prop} (hb : x ≠ y) (h : Q (.bool false) s) :
    wpAny (model prog w) A (compareOp .Eq (.str x t) (.str y u)) Q E s := eq_str (by rw [show (x == y) = false from beq_eq_false_iff_ne.mpr hb]; exact h)
theorem one_ne {c : PySem.Str} (h : PySem.Str.length c = 1) : c ≠ PySem.Str.ofString "" := fun e => by
  subst e
  exact absurd h (by decide)
/-- what is so ahead of each turn where only white signs are left -/
inductive InvE (w : World) (x dx st dst f c' cell sl pb : Addr) (k1 k2 k3 k4 j1 j2 j3 j4 j5 tw jl jw : Tok) (jln : Int) (jws : PySem.Str) (jpb : Value)
    (name qual : PySem.Str) (P : Arguments) (Bd : PySem.Expr) (Sc : Scope) (cl : List (PySem.Str × Addr)) (pm ctv : Value) (oc ocell : Obj) (g : Heap) (s : Shared) (e : Nat)
    (Enc : List Value → Prop) (lnE : Int) (L I q : Addr) (tq : Tok) : Nat → Shared → Prop
  | mk (vs tt ln tl n ch hp tk) : Enc vs → lnAfter ln vs = lnE → List.length vs + 7 ≤ 1000 →
    Fr g L hp (fun y => if y = PySem.Str.ofString "ch" then ch else if y = PySem.Str.ofString "token" then some (.str (PySem.Str.ofString "") tt) else if y = PySem.Str.ofString "fiter" then some (.ref I) else List.lookup y [(PySem.Str.ofString "self", .ref x)].reverse) →
    News g L hp [(x, instObj 66 dx), (dx, lexDict w k1 k2 k3 k4 (.int ln tl) (.ref st) (.str (PySem.Str.ofString "\n\t\r ") tw) (.ref pb)), (st, instObj 66 dst), (dst, strDict w j1 j2 j3 j4 j5 (.int jln jl) .none (.str jws jw) jpb (.ref f)),
        (f, kla_obj name qual P Bd Sc cl pm c' ctv), (c', oc), (cell, ocell), (sl, listOf vs.toArray n), (I, citObj q tq), (q, methodObj (.ref 49) (.ref x)), (pb, listOf #[] e)] →
    InvE w x dx st dst f c' cell sl pb k1 k2 k3 k4 j1 j2 j3 j4 j5 tw jl jw jln jws jpb name qual P Bd Sc cl pm ctv oc ocell g s e Enc lnE L I q tq (List.length vs) { s with heap := hp, toks := tk }
theorem News.sub {h₀ h : Heap} {L : Addr} {l l' : List (Addr × Obj)} (N : News h₀ L h l) (hs : ∀ q ∈ l', q ∈ l) : News h₀ L h l' := fun q hq => N q (hs q hq)

end

section
/-- where an address stands in a list -/
inductive AtI : List Addr → Addr → Nat → Prop
  | head {a l} : AtI (a :: l) a 0
  | tail {a b l i} : AtI l a i → AtI (b :: l) a (i + 1)
inductive AtL (l : List Addr) : List Addr → List Nat → Prop
  | nil : AtL l [] []
  | cons {a as i is} : AtI l a i → AtL l as is → AtL l (a :: as) (i :: is)
inductive AtP (l : List Addr) : List (Addr × Obj) → List Nat → Prop
  | nil : AtP l [] []
  | cons {p ps i is} : AtI l p.1 i → AtP l ps is → AtP l (p :: ps) (i :: is)
inductive RestI (l : List Addr) (pre : List (Addr × Obj)) : List (Addr × Obj) → List Nat → Prop
  | nil : RestI l pre [] []
  | old {r rs j js} : AtI l r.1 j → RestI l pre rs js → RestI l pre (r :: rs) (j :: js)
  | new {r rs js} : LCg.Off1 r.1 pre → RestI l pre rs js → RestI l pre (r :: rs) js
theorem AtI.mem {l : List Addr} {a : Addr} {i : Nat} (h : AtI l a i) : a ∈ l := by
  induction h with
  | head => exact .head _
  | tail _ ih => exact .tail _ ih
theorem AtI.ne {l : List Addr} {a b : Addr} {i j : Nat} (h : Apart l) (ha : AtI l a i) (hb : AtI l b j) (hij : i ≠ j) : @Ne Nat b a := by
  induction ha generalizing j with
  | head =>
    cases hb with
    | head => exact absurd rfl hij
    | tail hb => exact h.1 _ hb.mem
  | tail ha ih =>
    cases hb with
    | head => exact (h.1 _ ha.mem).symm
    | tail hb => exact ih h.2 hb fun e => hij (congrArg (· + 1) e)
theorem AtP.off {l : List Addr} (h : Apart l) {b : Addr} {j : Nat} (hb : AtI l b j) : ∀ {pre : List (Addr × Obj)} {I : List Nat}, AtP l pre I → (I.all fun i => i != j) = true → LCg.Off1 b pre
  | _, _, .nil, _ => trivial
  | _, _, .cons ha hs, hd => by
    simp only [List.all_cons, Bool.and_eq_true, bne_iff_ne] at hd
    exact ⟨(ha.ne h hb hd.1).symm, AtP.off h hb hs hd.2⟩
theorem RestI.off {l : List Addr} (h : Apart l) {pre : List (Addr × Obj)} {I : List Nat} (hI : AtP l pre I) : ∀ {rest : List (Addr × Obj)} {J : List Nat}, RestI l pre rest J → (J.all fun j => I.all fun i => i != j) = true → ∀ r ∈ rest, LCg.Off1 r.1 pre
  | _, _, .nil, _, r, hr => nomatch hr
  | _, _, .old ha hs, hd, r, hr => by
    simp only [List.all_cons, Bool.and_eq_true] at hd
    rcases List.mem_cons.mp hr with rfl | hr
    · exact AtP.off h ha hI hd.1
    · exact RestI.off h hI hs hd.2 r hr
  | _, _, .new ha hs, hd, r, hr => by
    rcases List.mem_cons.mp hr with rfl | hr
    · exact ha
    · exact RestI.off h hI hs hd r hr
theorem off1_mem {D : Addr} : ∀ {l : List (Addr × Obj)}, LCg.Off1 D l → ∀ p ∈ l, @Ne Nat p.1 D
  | [], _, p, hp => by cases hp
  | r :: l, h, p, hp => by
    rcases List.mem_cons.mp hp with rfl | hp
    · exact h.1
    · exact off1_mem h.2 p hp
theorem alloff_of {rest : List (Addr × Obj)} : ∀ {pre : List (Addr × Obj)}, (∀ q ∈ pre, ∀ r ∈ rest, r.1 ≠ q.1) → AllOff pre rest
  | [], _ => trivial
  | q :: pre, h => ⟨off1_of fun r hr => h q (.head _) r hr, alloff_of fun q hq => h q (.tail _ hq)⟩
theorem off_idx {l : List Addr} {pre rest : List (Addr × Obj)} {I J : List Nat} (h : Apart l) (hI : AtP l pre I) (hJ : RestI l pre rest J) (hd : (J.all fun j => I.all fun i => i != j) = true) : AllOff pre rest :=
  alloff_of fun q hq r hr => (off1_mem (RestI.off h hI hJ hd r hr) q hq).symm
theorem off1_sub {D : Addr} {l pre : List (Addr × Obj)} (h : LCg.Off1 D l) (hs : ∀ a ∈ pre.map (·.1), a ∈ l.map (·.1)) : LCg.Off1 D pre :=
  off1_of fun r hr => by
    obtain ⟨q, hq, e⟩ := List.mem_map.mp (hs r.1 (List.mem_map_of_mem hr))
    rw [← e]
    exact off1_mem h q hq

end

section
/-- the lambda is entered -/
theorem enterL {prog : Program} {w : World} {A : Around} {s : Shared} {base g : Heap} {fr : List Env} {pre : List (Addr × Obj)} {K : Frag}
    {R : Result → Shared → Prop} {name qual : PySem.Str} {params : Arguments} {body : PySem.Expr} {scope : Scope} {cl : List (PySem.Str × Addr)} {pm ctv : Value} {oc : Obj} {f c' : Addr} {vs : List Value} {binds : List (PySem.Str × Value)}
    {p : Program} {loose : List PySem.Str} {mean : ExcName → Option Value} {mg mb : PySem.Str → Option Value} {fv : Array Value} {tq : Tok}
    (B : Below A base fr g) (X : K.In g) (T : Top p loose mean mg mb g) (hsz : g.objs.size ≤ s.heap.objs.size) (H : Holds g s.heap pre)
    (hmf : (f, kla_obj name qual params body scope cl pm c' ctv) ∈ pre) (hmc : (c', oc) ∈ pre) (hd : oc.data = .fields fv) (hv : fv[1]? = some (.str qual tq)) (hroom : A.depth < recursionLimit)
    (hbind : bindArgs (kla_fn name qual params body scope cl pm (.ref c') ctv) ⟨vs, []⟩ = pure binds) (hloc : ∀ y ∈ binds, scope.names.lookup y.1 = some .local)
    (h : ∀ L' h₁, Fr g L' h₁ (fun y => binds.reverse.lookup y) → News g L' h₁ pre → (∀ q ∈ pre, q.1 < L') →
      wpAny (model prog w) (A.deeper (envX qual scope L' f (.ref c') cl)) (eval body (envX qual scope L' f (.ref c') cl))
        (fun v s' => R (.ok (.ret v)) s')
        (fun e s' => wpAny (model prog w) (A.deeper (envX qual scope L' f (.ref c') cl)) (leaving (envX qual scope L' f (.ref c') cl) e) (fun _ s'' => R (.error e) s'') (fun e' s'' => R (.error e') s'') s')
        { s with heap := h₁, toks := s.toks + binds.length })
    (hco : scope.isCoroutine = false) (hgen : scope.isGenerator = false) (hk : scope.kind = .function)
    (hcell : ∀ x ∈ scope.names, x.2 ≠ .cell) :
    codeAny (model prog w) A (.call (.ref f) ⟨vs, []⟩) R s := by
  refine kla_callFunE hroom (H.has _ hmf).1 rfl hco hgen rfl ⟨c', oc, fv, tq, rfl, (H.has _ hmc).1, hd, hv⟩ ?_
  rw [hbind]
  refine wpAny_pure (wpAny_newFunctionEnv hcell hloc (fun h₁ hns hsb => ⟨((T.nolimit).keeps H.keep).fresh _ hsb, ?_⟩) hk)
  show codeAny _ _ (.expr body (envX qual scope s.heap.objs.size f (.ref c') cl)) _ _
  have hk₁ : ∀ b o, s.heap.get? b = some o → h₁.get? b = some o := fun b o e => hsb.extBut b o (Nat.ne_of_lt (Heap.lt_size e)) (Heap.get?_push_of_some _ e)
  exact kla_codeExpr (h s.heap.objs.size h₁ ⟨hns, fun b o e => hk₁ b o (H.keep b o e), hsz⟩
    (fun q hq => ⟨hk₁ _ _ (H.has q hq).1, Nat.ne_of_lt (Heap.lt_size (H.has q hq).1), (H.has q hq).2⟩) (fun q hq => Heap.lt_size (H.has q hq).1))

end

section
theorem words_lexer : True := by
  k_with_none
  k_with "k_room" => (first | decide | ((try simp only [depth_under_make, depth_under_kw, depth_in1, depth_deeper, depth_caller]); lia))
  k_with "eval ListComp" => ((k_here; k_dflt (refine LCg.ListComp_U (F₀ := by k_asm) (by with_unfolding_all rfl) (by decide) (by rfl) (by decide) (by rfl) ?_); k_dflt lcg_toSrc))
  k_with "exec Assign cons ListComp" => ((k_here; k_dflt (refine LCg.Assign_ListComp_U (F₀ := by k_asm) (by rfl) (by with_unfolding_all rfl) (by with_unfolding_all rfl) (by decide) (by rfl) (by decide) (by rfl) (by rfl) (by rfl) ?_); k_dflt lcg_toSrc))
  k_with "CompSrc" => ((k_here; k_dflt (first | (refine LCg.CompSrc.ledger (by rfl) (by k_asm) (by k_asm) (by k_mem) (by first | exact Nat.le_of_ble_eq_true rfl | size_fits) ?_; intro g'; lcg_lit) | (refine LCg.CompSrc.range (by rfl) (by k_asm) (by k_asm) (by assumption) (by first | decide | rfl) (by first | rfl | decide) (by first | exact Nat.le_of_ble_eq_true rfl | size_fits) ?_; intro g'; lcg_lit))))
  k_with "binaryOp Pow int int" => ((k_here; with_reducible refine pow_pw ?kb1 ?kb2 ?_; (case kb1 => assumption); (case kb2 => assumption)))
  k_with "binaryOp Mult int int" => ((k_here; with_reducible refine mul_pw ?kb1 ?kb2 ?_; (case kb1 => assumption); (case kb2 => assumption)))
  k_with "binaryOp BitXor int int" => ((k_here; with_reducible refine xor_xr ?_))
  k_with "CompRest" => ((with_unfolding_all first | (refine LCg.CompRest.succ ?_; intro v' I' oI' C' oC' D' m' h' tk' E' hv' hC' hx' F' N' off' ne'; (first | lcg_open hv' | (obtain ⟨t9', hv9'⟩ := hv'; subst hv9')); (obtain ⟨neIC', neID', neCD'⟩ := ne')) | refine LCg.CompRest.zero ?_))
  k_with "lcg_off" => (with_reducible assumption)
  k_with "CompEnd" => (lcg_end)
  k_with "eval Name" => ((k_here; k_dflt (first
  | (refine' nameX_L ?F ?v ?_ ?a ?b; (case F => k_asm); (case a => rfl); (case b => rfl); (case v => rfl); k_whole)
  | (refine' nameX_C ?N ?c ?m ?d ?_ ?a ?b; (case a => rfl); (case b => rfl); (case N => k_asm); (case c => rfl); (case m => k_mem); (case d => k_asm); k_whole)
  | (refine' nameX_K ?F ?X ?T ?e ?_ ?a ?b; (case F => k_asm); (case X => k_asm); (case T => k_asm); (case a => rfl); (case b => rfl); (case e => k_is); k_whole))))
  k_with "eval Name" => ((k_here; (with_reducible show wpAny _ _ (eval (PySem.Expr.Name _ _) (compEnvC _ _ _ _)) _ _ _); k_dflt (first
  | (refine LCgL.ld_own (by k_asm) (by k_mem) (by assumption) (by assumption) ?_)
  | (refine' lcf_cell ?N ?c ?m ?d ?_ ?a ?b; (case a => rfl); (case b => rfl); (case N => k_asm); (case c => rfl); (case m => k_mem); (case d => k_asm); k_whole)
  | (refine' lcf_free ?N ?c ?m ?d ?_ ?a ?b; (case a => rfl); (case b => rfl); (case N => k_asm); (case c => rfl); (case m => k_mem); (case d => k_asm); k_whole)
  | (refine LCgL.ld_global (by k_asm) (by k_asm) (by k_asm) (by k_is) ?_))))
  k_with "FinE" => (((unfold LCg.FinE); intro D' h' tk' F' N' oq9'; (try simp only [List.nil_append, List.cons_append] at N'); (try dsimp only)))
  k_with "FinA" => (((unfold LCg.FinA); intro D' h' tk' F' N' oq9'; (try simp only [List.nil_append, List.cons_append] at N'); (try dsimp only)))
  k_with "k_ne" => (((try dsimp only); first
  | (with_reducible assumption)
  | (with_reducible exact Ne.symm (by assumption))
  | (refine' off1_ne ?nh ?nm; (case nh => with_reducible assumption); (case nm => k_mem))
  | (refine' off1_ne' ?nh ?nm; (case nh => with_reducible assumption); (case nm => k_mem))
  | (refine' off3_I ?nh ?nm; (case nh => with_reducible assumption); (case nm => k_mem))
  | (refine' off3_C ?nh ?nm; (case nh => with_reducible assumption); (case nm => k_mem))
  | (refine' off3_D ?nh ?nm; (case nh => with_reducible assumption); (case nm => k_mem))
  | (refine' off3_I' ?nh ?nm; (case nh => with_reducible assumption); (case nm => k_mem))
  | (refine' off3_C' ?nh ?nm; (case nh => with_reducible assumption); (case nm => k_mem))
  | (refine' off3_D' ?nh ?nm; (case nh => with_reducible assumption); (case nm => k_mem))
  | (refine' two_ne ?nh ?nm; (case nh => with_reducible assumption); (case nm => tb_start))
  | (refine' two_ne' ?nh ?nm; (case nh => with_reducible assumption); (case nm => tb_start))
  | (refine neN ?_; lia)))
  k_with "tb_start" => (first | (refine' Two.head ?th; (case th => k_mem)) | (refine' Two.tail ?tw; (case tw => tb_start)))
  k_with "call builtin:list.append" => ((k_here; (with_reducible show wpAny _ _ (PySem.call (Value.builtin _) [Value.ref _, _]) _ _ _); k_dflt (refine append_lit (by k_asm) (by k_asm) (by kl_lit) (by k_upd) (by kl_room) ?_); kl_rest))
  k_with "subscriptTail" => ((k_here; (with_reducible show wpAny _ _ (subscriptTail _ _ (Value.ref _) (Value.int _ _)) _ _ _); k_dflt (refine item_N (by k_asm) (by k_mem) (by decide) (by decide) rfl ?_ (by with_unfolding_all rfl))))
  k_with "subscriptTail Name Name ref int" => ((walk_at "subscriptTail"))
  k_with "subscriptTail Name Constant ref int" => ((walk_at "subscriptTail"))
  k_with "getItem ref int" => ((k_here; k_dflt (refine getItem_N (by k_asm) (by k_mem) (by decide) (by decide) rfl ?_)))
  k_with "getMethod ref" => ((k_here; (with_reducible show wpAny _ _ (getMethod (Value.ref _) (PySem.Str.ofString "read") _) _ _ _); k_dflt (refine kmu_own (by k_asm) (by k_asm) (by k_inst) (by k_is) (by k_is) ?_)))
  k_with "And" => (((with_reducible show FnAt _ _ ∧ _); refine ⟨FnAt.of (by k_asm) (by k_mem), ?_⟩; (try dsimp only [List.nil_append, List.cons_append])))
  k_with "k_mem" => (first | exact List.Mem.head _ | exact mem1 | exact mem2 | exact mem3 | exact mem4 | exact mem5 | exact mem6 | exact mem7 | (refine' mem8 ?_; k_mem))
  k_with "lcg_sub" => (first | exact sub_nil | (refine sub_cons (by k_mem) ?_; lcg_sub))
  k_with "kpt_turns" => (first | exact Take.head | exact tk1 | exact tk2 | exact tk3 | (refine' tk4 ?tk; (case tk => kpt_turns)))
  k_with "tb_rel" => (first | exact Pick.nil | (refine' Pick.cons ?pt ?pk; (case pt => kpt_turns); (case pk => tb_rel)))
  k_with "ktm_same2" => (first | exact True.intro | (refine off1_cons (by k_ne) ?_; ktm_same2))
  k_with "ktr_rel" => (first | exact True.intro | (refine And.intro (by ktm_same2) ?_; ktr_rel))
  k_with "ktr_room" => (first | decide | ((try simp only [depth_under_make, depth_under_kw, depth_in1, depth_deeper, depth_caller] at *); lia))
  k_with "truthy ref" => ((k_here; (with_reducible show wpAny _ _ (truthy (Value.ref _)) _ _ _); k_dflt (first
  | (refine truthy_cons (by k_asm) (by k_mem) (by with_reducible assumption) ?_)
  | (refine truthy_nil (by k_asm) (by k_mem) ?_))))
  k_with "call builtin:list.pop" => ((k_here; (with_reducible show wpAny _ _ (PySem.call (Value.builtin _) [Value.ref _, Value.int 0 _]) _ _ _); k_dflt (refine pop0_cons (by k_asm) (by k_asm) (by k_upd) (by with_reducible assumption) ?_); kl_rest))
  k_with "execs cons" => ((k_here; k_fold))
  exact True.intro

local macro_rules | `(tactic| k_lt $h:ident) => `(tactic| ((have offK' := off1_of (fun r hr => Nat.ne_of_lt ($h r hr))); replace $h := allLt_of $h; simp only [AllLt, and_true] at $h:ident))
/-- a lexer just made: what it leans on, and what its lambda gives -/
inductive LexPost (w : World) (sl : Addr) (vs : List Value) (n : Nat) : Value → List (Addr × Obj) → Prop
  | mk (x dx st dst f c' cell pb k1 k2 k3 k4 j1 j2 j3 j4 j5 tw jl jw tl jln jws jpb name qual P Bd Sc cl pm ctv oc ocell fv tq) : (Apart [168, x, dx, st, dst, f, c', cell, sl, pb]) → (Lam w f c' cell sl name qual P Bd Sc cl pm ctv oc ocell) → (ocell.data = .cell (some (.ref sl))) → (oc.data = .fields fv) → (fv[1]? = some (.str (PySem.Str.ofString "_law_lexer.<locals>.<lambda>") tq)) →
    LexPost w sl vs n (.ref x) ((168, tabObj #[rawInt 139, rawInt 18, .ref c']) :: (pb, listOf #[] 0) :: lexL w x dx st dst f c' cell sl pb k1 k2 k3 k4 j1 j2 j3 j4 j5 tw jl jw tl jln jws jpb name qual P Bd Sc cl pm ctv oc ocell 1 vs n)
theorem words1_lexer : True := by
  k_with "kpf_close" => (first | exact True.intro | (refine' And.intro ?ha ?hb; (case ha => (repeat (refine List.forall_mem_cons.mpr ⟨by k_ne, ?_⟩)); exact List.forall_mem_nil _); (case hb => kpf_close)))
  exact True.intro

set_option maxHeartbeats 2000000 in
theorem lexer_spec (w : World) (sl : Addr) (vs : List Value) (n : Nat) (hs : @Ne Nat sl 168) (hh : ∀ g, (hd.heap_19 w.params).In g → CodeHd g 172 168) :
    Spec w 173 3 [.ref sl] [(sl, listOf vs.toArray n), (168, tabObj #[])] (LexPost w sl vs n) := by
  unfold Spec
  w_top off
  k_fill
  intro mean mg mb p loose dp un gd fr base g s R B X T hsz H hdp hu hret
  have hC := hh g X
  k_dflt (refine enterC (binds := [("signs", .ref sl)]) (by assumption) (by assumption) (by assumption) (by assumption) (by assumption) (by k_is) (by k_is) (by k_room) (BindsTo.of_eq rfl) rfl (by decide +kernel) ?_ rfl rfl rfl)
  intro L' h' tk' cells' F' N' Y' l1
  (have offK' := off1_of (fun r hr => Nat.ne_of_lt (l1 r hr)))
  (try (replace l1 := allLt_of l1; simp only [AllLt, and_true] at l1))
  k_cells Y'
  (try simp only [List.cons_append, List.nil_append] at N')
  (try dsimp only)
  (try k_fold)
  repeat' (first | (k_unfold; (try dsimp only)) | (k_end; wrow_close) | walk1 | (dsimp only; walk1) | (dsimp only; k_unfold; (try dsimp only)) | (leave1; walk_say "STEP leave1"; (try dsimp only)) | fail "no step")
  all_goals (try dsimp only)
  refine' spec_end hret (by assumption) (by assumption) _ (LexPost.mk _ _ _ _ _ _ _ _ _ _ _ _ _ _ _ _ _ _ _ _ _ _ _ _ _ _ _ _ _ _ _ _ _ _ _ _ ?ap ?lam ?cd ?oc ?fv) ?sub
  case cd => assumption
  case oc => assumption
  case fv => assumption
  case sub => unfold lexL; lcg_sub
  case ap => kpf_close
  case lam =>
    (try dsimp only)
    refine ⟨fun t c tc rest n hz => ?_, fun t n => ?_⟩
    · clear hret H hdp hu B X T hsz
      rename Fr _ _ _ _ => oldF
      rename News _ _ _ _ => oldN
      clear oldF oldN
      unfold Spec
      w_top off
      k_fill
      intro mean mg mb p loose dp un gd fr base g s R B X T hsz H hdp hu hret
      refine' enterL (binds := [(PySem.Str.ofString "size", .int 1 t)]) B X T hsz H ?hmf ?hmc ?hd ?hv ?hroom ?hbind ?hloc ?_ ?hco ?hgen ?hk ?hcell
      case hmf => k_mem
      case hmc => k_mem
      case hd => assumption
      case hv => assumption
      case hroom => k_room
      case hbind => exact rfl
      case hloc => exact locs rfl
      case hco => exact rfl
      case hgen => exact rfl
      case hk => exact rfl
      case hcell => decide
      intro L' h' F' N' l1
      k_lt l1
      (try dsimp only [List.length_cons, List.length_nil, List.reverse_cons, List.reverse_nil, List.nil_append, List.cons_append])
      repeat' (first | (k_unfold; (try dsimp only)) | (k_end; wrow_close) | walk1 | (dsimp only; walk1) | (dsimp only; k_unfold; (try dsimp only)) | (leave1; walk_say "STEP leave1"; (try dsimp only)) | fail "no step")
      (try dsimp only)
      exact spec_end hret (by assumption) (by assumption) _ ⟨rfl, rfl⟩ (by lcg_sub)
    · clear hret H hdp hu B X T hsz
      rename Fr _ _ _ _ => oldF
      rename News _ _ _ _ => oldN
      clear oldF oldN
      unfold Spec
      w_top off
      k_fill
      intro mean mg mb p loose dp un gd fr base g s R B X T hsz H hdp hu hret
      refine' enterL (binds := [(PySem.Str.ofString "size", .int 1 t)]) B X T hsz H ?hmf ?hmc ?hd ?hv ?hroom ?hbind ?hloc ?_ ?hco ?hgen ?hk ?hcell
      case hmf => k_mem
      case hmc => k_mem
      case hd => assumption
      case hv => assumption
      case hroom => k_room
      case hbind => exact rfl
      case hloc => exact locs rfl
      case hco => exact rfl
      case hgen => exact rfl
      case hk => exact rfl
      case hcell => decide
      intro L' h' F' N' l1
      k_lt l1
      (try dsimp only [List.length_cons, List.length_nil, List.reverse_cons, List.reverse_nil, List.nil_append, List.cons_append])
      repeat' (first | (k_unfold; (try dsimp only)) | (k_end; wrow_close) | walk1 | (dsimp only; walk1) | (dsimp only; k_unfold; (try dsimp only)) | (leave1; walk_say "STEP leave1"; (try dsimp only)) | fail "no step")
      (try dsimp only)
      exact spec_end hret (by assumption) (by assumption) _ ⟨⟨_, rfl⟩, rfl⟩ (by lcg_sub)

end

section
theorem words_lexer2 : True := by
  k_with_none
  k_with "k_room" => (first | decide | ((try simp only [depth_under_make, depth_under_kw, depth_in1, depth_deeper, depth_caller]); lia))
  k_with "eval ListComp" => ((k_here; k_dflt (refine LCg.ListComp_U (F₀ := by k_asm) (by with_unfolding_all rfl) (by decide) (by rfl) (by decide) (by rfl) ?_); k_dflt lcg_toSrc))
  k_with "exec Assign cons ListComp" => ((k_here; k_dflt (refine LCg.Assign_ListComp_U (F₀ := by k_asm) (by rfl) (by with_unfolding_all rfl) (by with_unfolding_all rfl) (by decide) (by rfl) (by decide) (by rfl) (by rfl) (by rfl) ?_); k_dflt lcg_toSrc))
  k_with "CompSrc" => ((k_here; k_dflt (first | (refine LCg.CompSrc.ledger (by rfl) (by k_asm) (by k_asm) (by k_mem) (by first | exact Nat.le_of_ble_eq_true rfl | size_fits) ?_; intro g'; lcg_lit) | (refine LCg.CompSrc.range (by rfl) (by k_asm) (by k_asm) (by assumption) (by first | decide | rfl) (by first | rfl | decide) (by first | exact Nat.le_of_ble_eq_true rfl | size_fits) ?_; intro g'; lcg_lit))))
  k_with "binaryOp Pow int int" => ((k_here; with_reducible refine pow_pw ?kb1 ?kb2 ?_; (case kb1 => assumption); (case kb2 => assumption)))
  k_with "binaryOp Mult int int" => ((k_here; with_reducible refine mul_pw ?kb1 ?kb2 ?_; (case kb1 => assumption); (case kb2 => assumption)))
  k_with "binaryOp BitXor int int" => ((k_here; with_reducible refine xor_xr ?_))
  k_with "CompRest" => ((with_unfolding_all first | (refine LCg.CompRest.succ ?_; intro v' I' oI' C' oC' D' m' h' tk' E' hv' hC' hx' F' N' off' ne'; (first | lcg_open hv' | (obtain ⟨t9', hv9'⟩ := hv'; subst hv9')); (obtain ⟨neIC', neID', neCD'⟩ := ne')) | refine LCg.CompRest.zero ?_))
  k_with "lcg_off" => (with_reducible assumption)
  k_with "CompEnd" => (lcg_end)
  k_with "eval Name" => ((k_here; k_dflt (first
  | (refine' nameX_L ?F ?v ?_ ?a ?b; (case F => k_asm); (case a => rfl); (case b => rfl); (case v => rfl); k_whole)
  | (refine' nameX_C ?N ?c ?m ?d ?_ ?a ?b; (case a => rfl); (case b => rfl); (case N => k_asm); (case c => rfl); (case m => k_mem); (case d => k_asm); k_whole)
  | (refine' nameX_K ?F ?X ?T ?e ?_ ?a ?b; (case F => k_asm); (case X => k_asm); (case T => k_asm); (case a => rfl); (case b => rfl); (case e => k_is); k_whole))))
  k_with "eval Name" => ((k_here; (with_reducible show wpAny _ _ (eval (PySem.Expr.Name _ _) (compEnvC _ _ _ _)) _ _ _); k_dflt (first
  | (refine LCgL.ld_own (by k_asm) (by k_mem) (by assumption) (by assumption) ?_)
  | (refine' lcf_cell ?N ?c ?m ?d ?_ ?a ?b; (case a => rfl); (case b => rfl); (case N => k_asm); (case c => rfl); (case m => k_mem); (case d => k_asm); k_whole)
  | (refine' lcf_free ?N ?c ?m ?d ?_ ?a ?b; (case a => rfl); (case b => rfl); (case N => k_asm); (case c => rfl); (case m => k_mem); (case d => k_asm); k_whole)
  | (refine LCgL.ld_global (by k_asm) (by k_asm) (by k_asm) (by k_is) ?_))))
  k_with "FinE" => (((unfold LCg.FinE); intro D' h' tk' F' N' oq9'; (try simp only [List.nil_append, List.cons_append] at N'); (try dsimp only)))
  k_with "FinA" => (((unfold LCg.FinA); intro D' h' tk' F' N' oq9'; (try simp only [List.nil_append, List.cons_append] at N'); (try dsimp only)))
  k_with "k_ne" => (((try dsimp only); first
  | (with_reducible assumption)
  | (with_reducible exact Ne.symm (by assumption))
  | (refine' off1_ne ?nh ?nm; (case nh => with_reducible assumption); (case nm => k_mem))
  | (refine' off1_ne' ?nh ?nm; (case nh => with_reducible assumption); (case nm => k_mem))
  | (refine' off3_I ?nh ?nm; (case nh => with_reducible assumption); (case nm => k_mem))
  | (refine' off3_C ?nh ?nm; (case nh => with_reducible assumption); (case nm => k_mem))
  | (refine' off3_D ?nh ?nm; (case nh => with_reducible assumption); (case nm => k_mem))
  | (refine' off3_I' ?nh ?nm; (case nh => with_reducible assumption); (case nm => k_mem))
  | (refine' off3_C' ?nh ?nm; (case nh => with_reducible assumption); (case nm => k_mem))
  | (refine' off3_D' ?nh ?nm; (case nh => with_reducible assumption); (case nm => k_mem))
  | (refine' two_ne ?nh ?nm; (case nh => with_reducible assumption); (case nm => tb_start))
  | (refine' two_ne' ?nh ?nm; (case nh => with_reducible assumption); (case nm => tb_start))
  | (refine neN ?_; lia)))
  k_with "tb_start" => (first | (refine' Two.head ?th; (case th => k_mem)) | (refine' Two.tail ?tw; (case tw => tb_start)))
  k_with "call builtin:list.append" => ((k_here; (with_reducible show wpAny _ _ (PySem.call (Value.builtin _) [Value.ref _, _]) _ _ _); k_dflt (refine append_lit (by k_asm) (by k_asm) (by kl_lit) (by k_upd) (by kl_room) ?_); kl_rest))
  k_with "subscriptTail" => ((k_here; (with_reducible show wpAny _ _ (subscriptTail _ _ (Value.ref _) (Value.int _ _)) _ _ _); k_dflt (refine item_N (by k_asm) (by k_mem) (by decide) (by decide) rfl ?_ (by with_unfolding_all rfl))))
  k_with "subscriptTail Name Name ref int" => ((walk_at "subscriptTail"))
  k_with "subscriptTail Name Constant ref int" => ((walk_at "subscriptTail"))
  k_with "getItem ref int" => ((k_here; k_dflt (refine getItem_N (by k_asm) (by k_mem) (by decide) (by decide) rfl ?_)))
  k_with "getMethod ref" => ((k_here; (with_reducible show wpAny _ _ (getMethod (Value.ref _) (PySem.Str.ofString "read") _) _ _ _); k_dflt (refine kmu_own (by k_asm) (by k_asm) (by k_inst) (by k_is) (by k_is) ?_)))
  k_with "And" => (((with_reducible show FnAt _ _ ∧ _); refine ⟨FnAt.of (by k_asm) (by k_mem), ?_⟩; (try dsimp only [List.nil_append, List.cons_append])))
  k_with "k_mem" => (first | exact List.Mem.head _ | exact mem1 | exact mem2 | exact mem3 | exact mem4 | exact mem5 | exact mem6 | exact mem7 | (refine' mem8 ?_; k_mem))
  k_with "lcg_sub" => (first | exact sub_nil | (refine sub_cons (by k_mem) ?_; lcg_sub))
  k_with "kpt_turns" => (first | exact Take.head | exact tk1 | exact tk2 | exact tk3 | (refine' tk4 ?tk; (case tk => kpt_turns)))
  k_with "tb_rel" => (first | exact Pick.nil | (refine' Pick.cons ?pt ?pk; (case pt => kpt_turns); (case pk => tb_rel)))
  k_with "ktm_same2" => (first | exact True.intro | (refine off1_cons (by k_ne) ?_; ktm_same2))
  k_with "ktr_rel" => (first | exact True.intro | (refine And.intro (by ktm_same2) ?_; ktr_rel))
  k_with "ktr_room" => (first | decide | ((try simp only [depth_under_make, depth_under_kw, depth_in1, depth_deeper, depth_caller] at *); lia))
  k_with "truthy ref" => ((k_here; (with_reducible show wpAny _ _ (truthy (Value.ref _)) _ _ _); k_dflt (first
  | (refine truthy_cons (by k_asm) (by k_mem) (by with_reducible assumption) ?_)
  | (refine truthy_nil (by k_asm) (by k_mem) ?_))))
  k_with "call builtin:list.pop" => ((k_here; (with_reducible show wpAny _ _ (PySem.call (Value.builtin _) [Value.ref _, Value.int 0 _]) _ _ _); k_dflt (refine pop0_cons (by k_asm) (by k_asm) (by k_upd) (by with_reducible assumption) ?_); kl_rest))
  k_with "execs cons" => ((k_here; k_fold))
  exact True.intro

local macro_rules | `(tactic| k_lt $h:ident) => `(tactic| ((have offK' := off1_of (fun r hr => Nat.ne_of_lt ($h r hr))); replace $h := allLt_of $h; simp only [AllLt, and_true] at $h:ident))
/-- a second lexer: its lambda's code is the first one's -/
inductive LexPost2 (w : World) (sl c' : Addr) (oc : Obj) (vs : List Value) (n : Nat) : Value → List (Addr × Obj) → Prop
  | mk (x dx st dst f cell pb k1 k2 k3 k4 j1 j2 j3 j4 j5 tw jl jw tl jln jws jpb name qual P Bd Sc cl pm ctv ocell) : (Apart [168, x, dx, st, dst, f, c', cell, sl, pb]) → (Lam w f c' cell sl name qual P Bd Sc cl pm ctv oc ocell) → (ocell.data = .cell (some (.ref sl))) →
    LexPost2 w sl c' oc vs n (.ref x) ((168, tabObj #[rawInt 139, rawInt 18, .ref c']) :: (lexL w x dx st dst f c' cell sl pb k1 k2 k3 k4 j1 j2 j3 j4 j5 tw jl jw tl jln jws jpb name qual P Bd Sc cl pm ctv oc ocell 1 vs n ++ [(pb, listOf #[] 0)]))
theorem words1_lexer2 : True := by
  k_with "kpf_close" => (first | exact True.intro | (refine' And.intro ?ha ?hb; (case ha => (repeat (refine List.forall_mem_cons.mpr ⟨by k_ne, ?_⟩)); exact List.forall_mem_nil _); (case hb => kpf_close)))
  exact True.intro

set_option maxHeartbeats 2000000 in
theorem lexer2_spec (w : World) (sl c' : Addr) (oc : Obj) (vs : List Value) (n : Nat) (fv : Array Value) (tq : Tok) (hod : oc.data = .fields fv) (hof : fv[1]? = some (.str (PySem.Str.ofString "_law_lexer.<locals>.<lambda>") tq)) (hs : @Ne Nat sl 168) (hsc : @Ne Nat sl c') (hc8 : @Ne Nat c' 168) (hh : ∀ g, (hd.heap_19 w.params).In g → CodeHd g 172 168) :
    Spec w 173 3 [.ref sl] [(sl, listOf vs.toArray n), (168, tabObj #[rawInt 139, rawInt 18, .ref c']), (c', oc)] (LexPost2 w sl c' oc vs n) := by
  unfold Spec
  w_top off
  k_fill
  intro mean mg mb p loose dp un gd fr base g s R B X T hsz H hdp hu hret
  have hC := hh g X
  k_dflt (refine enterC (binds := [("signs", .ref sl)]) (by assumption) (by assumption) (by assumption) (by assumption) (by assumption) (by k_is) (by k_is) (by k_room) (BindsTo.of_eq rfl) rfl (by decide +kernel) ?_ rfl rfl rfl)
  intro L' h' tk' cells' F' N' Y' l1
  (have offK' := off1_of (fun r hr => Nat.ne_of_lt (l1 r hr)))
  (try (replace l1 := allLt_of l1; simp only [AllLt, and_true] at l1))
  k_cells Y'
  (try simp only [List.cons_append, List.nil_append] at N')
  (try dsimp only)
  (try k_fold)
  repeat' (first | (k_unfold; (try dsimp only)) | (k_end; wrow_close) | walk1 | (dsimp only; walk1) | (dsimp only; k_unfold; (try dsimp only)) | (leave1; walk_say "STEP leave1"; (try dsimp only)) | fail "no step")
  all_goals (try dsimp only)
  refine' spec_end hret (by assumption) (by assumption) _ (LexPost2.mk _ _ _ _ _ _ _ _ _ _ _ _ _ _ _ _ _ _ _ _ _ _ _ _ _ _ _ _ _ _ _ _ ?ap ?lam ?cd) ?sub
  case cd => assumption
  case sub => unfold lexL; (try simp only [List.cons_append, List.nil_append]); lcg_sub
  case ap => kpf_close
  case lam =>
    (try dsimp only)
    refine ⟨fun t c tc rest n hz => ?_, fun t n => ?_⟩
    · clear hret H hdp hu B X T hsz
      rename Fr _ _ _ _ => oldF
      rename News _ _ _ _ => oldN
      clear oldF oldN
      unfold Spec
      w_top off
      k_fill
      intro mean mg mb p loose dp un gd fr base g s R B X T hsz H hdp hu hret
      refine' enterL (binds := [(PySem.Str.ofString "size", .int 1 t)]) B X T hsz H ?hmf ?hmc ?hd ?hv ?hroom ?hbind ?hloc ?_ ?hco ?hgen ?hk ?hcell
      case hmf => k_mem
      case hmc => k_mem
      case hd => assumption
      case hv => assumption
      case hroom => k_room
      case hbind => exact rfl
      case hloc => exact locs rfl
      case hco => exact rfl
      case hgen => exact rfl
      case hk => exact rfl
      case hcell => decide
      intro L' h' F' N' l1
      k_lt l1
      (try dsimp only [List.length_cons, List.length_nil, List.reverse_cons, List.reverse_nil, List.nil_append, List.cons_append])
      repeat' (first | (k_unfold; (try dsimp only)) | (k_end; wrow_close) | walk1 | (dsimp only; walk1) | (dsimp only; k_unfold; (try dsimp only)) | (leave1; walk_say "STEP leave1"; (try dsimp only)) | fail "no step")
      (try dsimp only)
      exact spec_end hret (by assumption) (by assumption) _ ⟨rfl, rfl⟩ (by lcg_sub)
    · clear hret H hdp hu B X T hsz
      rename Fr _ _ _ _ => oldF
      rename News _ _ _ _ => oldN
      clear oldF oldN
      unfold Spec
      w_top off
      k_fill
      intro mean mg mb p loose dp un gd fr base g s R B X T hsz H hdp hu hret
      refine' enterL (binds := [(PySem.Str.ofString "size", .int 1 t)]) B X T hsz H ?hmf ?hmc ?hd ?hv ?hroom ?hbind ?hloc ?_ ?hco ?hgen ?hk ?hcell
      case hmf => k_mem
      case hmc => k_mem
      case hd => assumption
      case hv => assumption
      case hroom => k_room
      case hbind => exact rfl
      case hloc => exact locs rfl
      case hco => exact rfl
      case hgen => exact rfl
      case hk => exact rfl
      case hcell => decide
      intro L' h' F' N' l1
      k_lt l1
      (try dsimp only [List.length_cons, List.length_nil, List.reverse_cons, List.reverse_nil, List.nil_append, List.cons_append])
      repeat' (first | (k_unfold; (try dsimp only)) | (k_end; wrow_close) | walk1 | (dsimp only; walk1) | (dsimp only; k_unfold; (try dsimp only)) | (leave1; walk_say "STEP leave1"; (try dsimp only)) | fail "no step")
      (try dsimp only)
      exact spec_end hret (by assumption) (by assumption) _ ⟨⟨_, rfl⟩, rfl⟩ (by lcg_sub)

end

section
theorem words_tokl : True := by
  k_with_none
  k_with "k_room" => (first | decide | ((try simp only [depth_under_make, depth_under_kw, depth_in1, depth_deeper, depth_caller]); lia))
  k_with "eval ListComp" => ((k_here; k_dflt (refine LCg.ListComp_U (F₀ := by k_asm) (by with_unfolding_all rfl) (by decide) (by rfl) (by decide) (by rfl) ?_); k_dflt lcg_toSrc))
  k_with "exec Assign cons ListComp" => ((k_here; k_dflt (refine LCg.Assign_ListComp_U (F₀ := by k_asm) (by rfl) (by with_unfolding_all rfl) (by with_unfolding_all rfl) (by decide) (by rfl) (by decide) (by rfl) (by rfl) (by rfl) ?_); k_dflt lcg_toSrc))
  k_with "CompSrc" => ((k_here; k_dflt (first | (refine LCg.CompSrc.ledger (by rfl) (by k_asm) (by k_asm) (by k_mem) (by first | exact Nat.le_of_ble_eq_true rfl | size_fits) ?_; intro g'; lcg_lit) | (refine LCg.CompSrc.range (by rfl) (by k_asm) (by k_asm) (by assumption) (by first | decide | rfl) (by first | rfl | decide) (by first | exact Nat.le_of_ble_eq_true rfl | size_fits) ?_; intro g'; lcg_lit))))
  k_with "binaryOp Pow int int" => ((k_here; with_reducible refine pow_pw ?kb1 ?kb2 ?_; (case kb1 => assumption); (case kb2 => assumption)))
  k_with "binaryOp Mult int int" => ((k_here; with_reducible refine mul_pw ?kb1 ?kb2 ?_; (case kb1 => assumption); (case kb2 => assumption)))
  k_with "binaryOp BitXor int int" => ((k_here; with_reducible refine xor_xr ?_))
  k_with "CompRest" => ((with_unfolding_all first | (refine LCg.CompRest.succ ?_; intro v' I' oI' C' oC' D' m' h' tk' E' hv' hC' hx' F' N' off' ne'; (first | lcg_open hv' | (obtain ⟨t9', hv9'⟩ := hv'; subst hv9')); (obtain ⟨neIC', neID', neCD'⟩ := ne')) | refine LCg.CompRest.zero ?_))
  k_with "lcg_off" => (with_reducible assumption)
  k_with "CompEnd" => (lcg_end)
  k_with "eval Name" => ((k_here; k_dflt (first
  | (refine' nameX_L ?F ?v ?_ ?a ?b; (case F => k_asm); (case a => rfl); (case b => rfl); (case v => rfl); k_whole)
  | (refine' nameX_C ?N ?c ?m ?d ?_ ?a ?b; (case a => rfl); (case b => rfl); (case N => k_asm); (case c => rfl); (case m => k_mem); (case d => k_asm); k_whole)
  | (refine' nameX_K ?F ?X ?T ?e ?_ ?a ?b; (case F => k_asm); (case X => k_asm); (case T => k_asm); (case a => rfl); (case b => rfl); (case e => k_is); k_whole))))
  k_with "eval Name" => ((k_here; (with_reducible show wpAny _ _ (eval (PySem.Expr.Name _ _) (compEnvC _ _ _ _)) _ _ _); k_dflt (first
  | (refine LCgL.ld_own (by k_asm) (by k_mem) (by assumption) (by assumption) ?_)
  | (refine' lcf_cell ?N ?c ?m ?d ?_ ?a ?b; (case a => rfl); (case b => rfl); (case N => k_asm); (case c => rfl); (case m => k_mem); (case d => k_asm); k_whole)
  | (refine' lcf_free ?N ?c ?m ?d ?_ ?a ?b; (case a => rfl); (case b => rfl); (case N => k_asm); (case c => rfl); (case m => k_mem); (case d => k_asm); k_whole)
  | (refine LCgL.ld_global (by k_asm) (by k_asm) (by k_asm) (by k_is) ?_))))
  k_with "FinE" => (((unfold LCg.FinE); intro D' h' tk' F' N' oq9'; (try simp only [List.nil_append, List.cons_append] at N'); (try dsimp only)))
  k_with "FinA" => (((unfold LCg.FinA); intro D' h' tk' F' N' oq9'; (try simp only [List.nil_append, List.cons_append] at N'); (try dsimp only)))
  k_with "k_ne" => (((try dsimp only); first
  | (with_reducible assumption)
  | (with_reducible exact Ne.symm (by assumption))
  | (refine' off1_ne ?nh ?nm; (case nh => with_reducible assumption); (case nm => k_mem))
  | (refine' off1_ne' ?nh ?nm; (case nh => with_reducible assumption); (case nm => k_mem))
  | (refine' off3_I ?nh ?nm; (case nh => with_reducible assumption); (case nm => k_mem))
  | (refine' off3_C ?nh ?nm; (case nh => with_reducible assumption); (case nm => k_mem))
  | (refine' off3_D ?nh ?nm; (case nh => with_reducible assumption); (case nm => k_mem))
  | (refine' off3_I' ?nh ?nm; (case nh => with_reducible assumption); (case nm => k_mem))
  | (refine' off3_C' ?nh ?nm; (case nh => with_reducible assumption); (case nm => k_mem))
  | (refine' off3_D' ?nh ?nm; (case nh => with_reducible assumption); (case nm => k_mem))
  | (refine' two_ne ?nh ?nm; (case nh => with_reducible assumption); (case nm => tb_start))
  | (refine' two_ne' ?nh ?nm; (case nh => with_reducible assumption); (case nm => tb_start))
  | (refine neN ?_; lia)))
  k_with "tb_start" => (first | (refine' Two.head ?th; (case th => k_mem)) | (refine' Two.tail ?tw; (case tw => tb_start)))
  k_with "call builtin:list.append" => ((k_here; (with_reducible show wpAny _ _ (PySem.call (Value.builtin _) [Value.ref _, _]) _ _ _); k_dflt (refine append_lit (by k_asm) (by k_asm) (by kl_lit) (by k_upd) (by kl_room) ?_); kl_rest))
  k_with "subscriptTail" => ((k_here; (with_reducible show wpAny _ _ (subscriptTail _ _ (Value.ref _) (Value.int _ _)) _ _ _); k_dflt (refine item_N (by k_asm) (by k_mem) (by decide) (by decide) rfl ?_ (by with_unfolding_all rfl))))
  k_with "subscriptTail Name Name ref int" => ((walk_at "subscriptTail"))
  k_with "subscriptTail Name Constant ref int" => ((walk_at "subscriptTail"))
  k_with "getItem ref int" => ((k_here; k_dflt (refine getItem_N (by k_asm) (by k_mem) (by decide) (by decide) rfl ?_)))
  k_with "getMethod ref" => ((k_here; (with_reducible show wpAny _ _ (getMethod (Value.ref _) (PySem.Str.ofString "read") _) _ _ _); k_dflt (refine kmu_own (by k_asm) (by k_asm) (by k_inst) (by k_is) (by k_is) ?_)))
  k_with "And" => (((with_reducible show FnAt _ _ ∧ _); refine ⟨FnAt.of (by k_asm) (by k_mem), ?_⟩; (try dsimp only [List.nil_append, List.cons_append])))
  k_with "k_mem" => (first | exact List.Mem.head _ | exact mem1 | exact mem2 | exact mem3 | exact mem4 | exact mem5 | exact mem6 | exact mem7 | (refine' mem8 ?_; k_mem))
  k_with "lcg_sub" => (first | exact sub_nil | (refine sub_cons (by k_mem) ?_; lcg_sub))
  k_with "kpt_turns" => (first | exact Take.head | exact tk1 | exact tk2 | exact tk3 | (refine' tk4 ?tk; (case tk => kpt_turns)))
  k_with "tb_rel" => (first | exact Pick.nil | (refine' Pick.cons ?pt ?pk; (case pt => kpt_turns); (case pk => tb_rel)))
  k_with "ktm_same2" => (first | exact True.intro | (refine off1_cons (by k_ne) ?_; ktm_same2))
  k_with "ktr_rel" => (first | exact True.intro | (refine And.intro (by ktm_same2) ?_; ktr_rel))
  k_with "ktr_room" => (first | decide | ((try simp only [depth_under_make, depth_under_kw, depth_in1, depth_deeper, depth_caller] at *); lia))
  k_with "truthy ref" => ((k_here; (with_reducible show wpAny _ _ (truthy (Value.ref _)) _ _ _); k_dflt (first
  | (refine truthy_cons (by k_asm) (by k_mem) (by with_reducible assumption) ?_)
  | (refine truthy_nil (by k_asm) (by k_mem) ?_))))
  k_with "call builtin:list.pop" => ((k_here; (with_reducible show wpAny _ _ (PySem.call (Value.builtin _) [Value.ref _, Value.int 0 _]) _ _ _); k_dflt (refine pop0_cons (by k_asm) (by k_asm) (by k_upd) (by with_reducible assumption) ?_); kl_rest))
  k_with "execs cons" => ((k_here; k_fold))
  exact True.intro

set_option maxHeartbeats 2000000 in
theorem tokl_spec (w : World) (x dx pb : Addr) (k1 k2 k3 k4 tl tw : Tok) (ln : Int) (ins : Value) (ws : PySem.Str) (v : Value) (rest : List Value) (n : Nat)
    (hap : Apart [x, dx, pb]) (hb : rest.length ≤ 1000) :
    Spec w 56 1 [.ref x] [(x, instObj 66 dx), (dx, lexDict w k1 k2 k3 k4 (.int ln tl) ins (.str ws tw) (.ref pb)), (pb, listOf (v :: rest).toArray n)]
      (fun v' news => v' = v ∧ news = [(x, instObj 66 dx), (dx, lexDict w k1 k2 k3 k4 (.int ln tl) ins (.str ws tw) (.ref pb)), (pb, listOf rest.toArray (n + 1))]) := by
  unfold Spec
  w_top off
  k_fill
  intro mean mg mb p loose dp un gd fr base g s R B X T hsz H hdp hu hret
  k_dflt (refine enter (binds := [("self", .ref x)]) (by assumption) (by assumption) (by assumption) (by assumption) (by assumption) (by k_is) (by k_is) (by k_room) (BindsTo.of_eq rfl) (locs rfl) ?_ rfl rfl rfl (by decide))
  intro L' h' F' N' l1
  (have offK' := off1_of (fun r hr => Nat.ne_of_lt (l1 r hr)))
  (try (replace l1 := allLt_of l1; simp only [AllLt, and_true] at l1))
  (try dsimp only [List.length_cons, List.length_nil, List.reverse_cons, List.reverse_nil, List.nil_append, List.cons_append])
  (try k_fold)
  repeat' (first | (k_unfold; (try dsimp only)) | (k_end; wrow_close) | walk1 | (dsimp only; walk1) | (dsimp only; k_unfold; (try dsimp only)) | (leave1; walk_say "STEP leave1"; (try dsimp only)) | fail "no step")
  all_goals (try dsimp only)
  all_goals (exact spec_end hret (by assumption) (by assumption) _ ⟨rfl, rfl⟩ (by lcg_sub))

end

section
theorem words_push : True := by
  k_with_none
  k_with "k_room" => (first | decide | ((try simp only [depth_under_make, depth_under_kw, depth_in1, depth_deeper, depth_caller]); lia))
  k_with "eval ListComp" => ((k_here; k_dflt (refine LCg.ListComp_U (F₀ := by k_asm) (by with_unfolding_all rfl) (by decide) (by rfl) (by decide) (by rfl) ?_); k_dflt lcg_toSrc))
  k_with "exec Assign cons ListComp" => ((k_here; k_dflt (refine LCg.Assign_ListComp_U (F₀ := by k_asm) (by rfl) (by with_unfolding_all rfl) (by with_unfolding_all rfl) (by decide) (by rfl) (by decide) (by rfl) (by rfl) (by rfl) ?_); k_dflt lcg_toSrc))
  k_with "CompSrc" => ((k_here; k_dflt (first | (refine LCg.CompSrc.ledger (by rfl) (by k_asm) (by k_asm) (by k_mem) (by first | exact Nat.le_of_ble_eq_true rfl | size_fits) ?_; intro g'; lcg_lit) | (refine LCg.CompSrc.range (by rfl) (by k_asm) (by k_asm) (by assumption) (by first | decide | rfl) (by first | rfl | decide) (by first | exact Nat.le_of_ble_eq_true rfl | size_fits) ?_; intro g'; lcg_lit))))
  k_with "binaryOp Pow int int" => ((k_here; with_reducible refine pow_pw ?kb1 ?kb2 ?_; (case kb1 => assumption); (case kb2 => assumption)))
  k_with "binaryOp Mult int int" => ((k_here; with_reducible refine mul_pw ?kb1 ?kb2 ?_; (case kb1 => assumption); (case kb2 => assumption)))
  k_with "binaryOp BitXor int int" => ((k_here; with_reducible refine xor_xr ?_))
  k_with "CompRest" => ((with_unfolding_all first | (refine LCg.CompRest.succ ?_; intro v' I' oI' C' oC' D' m' h' tk' E' hv' hC' hx' F' N' off' ne'; (first | lcg_open hv' | (obtain ⟨t9', hv9'⟩ := hv'; subst hv9')); (obtain ⟨neIC', neID', neCD'⟩ := ne')) | refine LCg.CompRest.zero ?_))
  k_with "lcg_off" => (with_reducible assumption)
  k_with "CompEnd" => (lcg_end)
  k_with "eval Name" => ((k_here; k_dflt (first
  | (refine' nameX_L ?F ?v ?_ ?a ?b; (case F => k_asm); (case a => rfl); (case b => rfl); (case v => rfl); k_whole)
  | (refine' nameX_C ?N ?c ?m ?d ?_ ?a ?b; (case a => rfl); (case b => rfl); (case N => k_asm); (case c => rfl); (case m => k_mem); (case d => k_asm); k_whole)
  | (refine' nameX_K ?F ?X ?T ?e ?_ ?a ?b; (case F => k_asm); (case X => k_asm); (case T => k_asm); (case a => rfl); (case b => rfl); (case e => k_is); k_whole))))
  k_with "eval Name" => ((k_here; (with_reducible show wpAny _ _ (eval (PySem.Expr.Name _ _) (compEnvC _ _ _ _)) _ _ _); k_dflt (first
  | (refine LCgL.ld_own (by k_asm) (by k_mem) (by assumption) (by assumption) ?_)
  | (refine' lcf_cell ?N ?c ?m ?d ?_ ?a ?b; (case a => rfl); (case b => rfl); (case N => k_asm); (case c => rfl); (case m => k_mem); (case d => k_asm); k_whole)
  | (refine' lcf_free ?N ?c ?m ?d ?_ ?a ?b; (case a => rfl); (case b => rfl); (case N => k_asm); (case c => rfl); (case m => k_mem); (case d => k_asm); k_whole)
  | (refine LCgL.ld_global (by k_asm) (by k_asm) (by k_asm) (by k_is) ?_))))
  k_with "FinE" => (((unfold LCg.FinE); intro D' h' tk' F' N' oq9'; (try simp only [List.nil_append, List.cons_append] at N'); (try dsimp only)))
  k_with "FinA" => (((unfold LCg.FinA); intro D' h' tk' F' N' oq9'; (try simp only [List.nil_append, List.cons_append] at N'); (try dsimp only)))
  k_with "k_ne" => (((try dsimp only); first
  | (with_reducible assumption)
  | (with_reducible exact Ne.symm (by assumption))
  | (refine' off1_ne ?nh ?nm; (case nh => with_reducible assumption); (case nm => k_mem))
  | (refine' off1_ne' ?nh ?nm; (case nh => with_reducible assumption); (case nm => k_mem))
  | (refine' off3_I ?nh ?nm; (case nh => with_reducible assumption); (case nm => k_mem))
  | (refine' off3_C ?nh ?nm; (case nh => with_reducible assumption); (case nm => k_mem))
  | (refine' off3_D ?nh ?nm; (case nh => with_reducible assumption); (case nm => k_mem))
  | (refine' off3_I' ?nh ?nm; (case nh => with_reducible assumption); (case nm => k_mem))
  | (refine' off3_C' ?nh ?nm; (case nh => with_reducible assumption); (case nm => k_mem))
  | (refine' off3_D' ?nh ?nm; (case nh => with_reducible assumption); (case nm => k_mem))
  | (refine' two_ne ?nh ?nm; (case nh => with_reducible assumption); (case nm => tb_start))
  | (refine' two_ne' ?nh ?nm; (case nh => with_reducible assumption); (case nm => tb_start))
  | (refine neN ?_; lia)))
  k_with "tb_start" => (first | (refine' Two.head ?th; (case th => k_mem)) | (refine' Two.tail ?tw; (case tw => tb_start)))
  k_with "call builtin:list.append" => ((k_here; (with_reducible show wpAny _ _ (PySem.call (Value.builtin _) [Value.ref _, _]) _ _ _); k_dflt (refine append_lit (by k_asm) (by k_asm) (by kl_lit) (by k_upd) (by kl_room) ?_); kl_rest))
  k_with "subscriptTail" => ((k_here; (with_reducible show wpAny _ _ (subscriptTail _ _ (Value.ref _) (Value.int _ _)) _ _ _); k_dflt (refine item_N (by k_asm) (by k_mem) (by decide) (by decide) rfl ?_ (by with_unfolding_all rfl))))
  k_with "subscriptTail Name Name ref int" => ((walk_at "subscriptTail"))
  k_with "subscriptTail Name Constant ref int" => ((walk_at "subscriptTail"))
  k_with "getItem ref int" => ((k_here; k_dflt (refine getItem_N (by k_asm) (by k_mem) (by decide) (by decide) rfl ?_)))
  k_with "getMethod ref" => ((k_here; (with_reducible show wpAny _ _ (getMethod (Value.ref _) (PySem.Str.ofString "read") _) _ _ _); k_dflt (refine kmu_own (by k_asm) (by k_asm) (by k_inst) (by k_is) (by k_is) ?_)))
  k_with "And" => (((with_reducible show FnAt _ _ ∧ _); refine ⟨FnAt.of (by k_asm) (by k_mem), ?_⟩; (try dsimp only [List.nil_append, List.cons_append])))
  k_with "k_mem" => (first | exact List.Mem.head _ | exact mem1 | exact mem2 | exact mem3 | exact mem4 | exact mem5 | exact mem6 | exact mem7 | (refine' mem8 ?_; k_mem))
  k_with "lcg_sub" => (first | exact sub_nil | (refine sub_cons (by k_mem) ?_; lcg_sub))
  k_with "kpt_turns" => (first | exact Take.head | exact tk1 | exact tk2 | exact tk3 | (refine' tk4 ?tk; (case tk => kpt_turns)))
  k_with "tb_rel" => (first | exact Pick.nil | (refine' Pick.cons ?pt ?pk; (case pt => kpt_turns); (case pk => tb_rel)))
  k_with "ktm_same2" => (first | exact True.intro | (refine off1_cons (by k_ne) ?_; ktm_same2))
  k_with "ktr_rel" => (first | exact True.intro | (refine And.intro (by ktm_same2) ?_; ktr_rel))
  k_with "ktr_room" => (first | decide | ((try simp only [depth_under_make, depth_under_kw, depth_in1, depth_deeper, depth_caller] at *); lia))
  k_with "truthy ref" => ((k_here; (with_reducible show wpAny _ _ (truthy (Value.ref _)) _ _ _); k_dflt (first
  | (refine truthy_cons (by k_asm) (by k_mem) (by with_reducible assumption) ?_)
  | (refine truthy_nil (by k_asm) (by k_mem) ?_))))
  k_with "call builtin:list.pop" => ((k_here; (with_reducible show wpAny _ _ (PySem.call (Value.builtin _) [Value.ref _, Value.int 0 _]) _ _ _); k_dflt (refine pop0_cons (by k_asm) (by k_asm) (by k_upd) (by with_reducible assumption) ?_); kl_rest))
  k_with "execs cons" => ((k_here; k_fold))
  exact True.intro

theorem words1_push : True := by
  k_with "call builtin:list.append" => ((k_here; (with_reducible show wpAny _ _ (PySem.call (Value.builtin _) [Value.ref _, _]) _ _ _); k_dflt (refine append_lit (zs := _ ++ [_]) (by k_asm) (by k_asm) (by rfl) (by k_upd) (by first | (rw [sizeLine_eq]; simp only [List.size_toArray]; lia)) ?_); kl_rest))
  exact True.intro

set_option maxHeartbeats 2000000 in
theorem push_spec (w : World) (x dx pb : Addr) (k1 k2 k3 k4 tl tw : Tok) (ln : Int) (ins : Value) (ws : PySem.Str) (v : Value) (rest : List Value) (n : Nat)
    (hap : Apart [x, dx, pb]) (hb : rest.length ≤ 1000) :
    Spec w 63 1 [.ref x, v] [(x, instObj 66 dx), (dx, lexDict w k1 k2 k3 k4 (.int ln tl) ins (.str ws tw) (.ref pb)), (pb, listOf rest.toArray n)]
      (fun v' news => v' = .none ∧ news = [(x, instObj 66 dx), (dx, lexDict w k1 k2 k3 k4 (.int ln tl) ins (.str ws tw) (.ref pb)), (pb, listOf (rest ++ [v]).toArray (n + 1))]) := by
  unfold Spec
  w_top off
  k_fill
  intro mean mg mb p loose dp un gd fr base g s R B X T hsz H hdp hu hret
  k_dflt (refine enter (binds := [("self", .ref x), ("token", v)]) (by assumption) (by assumption) (by assumption) (by assumption) (by assumption) (by k_is) (by k_is) (by k_room) (BindsTo.of_eq rfl) (locs rfl) ?_ rfl rfl rfl (by decide))
  intro L' h' F' N' l1
  (have offK' := off1_of (fun r hr => Nat.ne_of_lt (l1 r hr)))
  (try (replace l1 := allLt_of l1; simp only [AllLt, and_true] at l1))
  (try dsimp only [List.length_cons, List.length_nil, List.reverse_cons, List.reverse_nil, List.nil_append, List.cons_append])
  (try k_fold)
  repeat' (first | (k_unfold; (try dsimp only)) | (k_end; wrow_close) | walk1 | (dsimp only; walk1) | (dsimp only; k_unfold; (try dsimp only)) | (leave1; walk_say "STEP leave1"; (try dsimp only)) | fail "no step")
  all_goals (try dsimp only)
  all_goals (exact spec_end hret (by assumption) (by assumption) _ ⟨rfl, rfl⟩ (by lcg_sub))

end

section
theorem words_tokq : True := by
  k_with_none
  k_with "k_room" => (first | decide | ((try simp only [depth_under_make, depth_under_kw, depth_in1, depth_deeper, depth_caller]); lia))
  k_with "eval ListComp" => ((k_here; k_dflt (refine LCg.ListComp_U (F₀ := by k_asm) (by with_unfolding_all rfl) (by decide) (by rfl) (by decide) (by rfl) ?_); k_dflt lcg_toSrc))
  k_with "exec Assign cons ListComp" => ((k_here; k_dflt (refine LCg.Assign_ListComp_U (F₀ := by k_asm) (by rfl) (by with_unfolding_all rfl) (by with_unfolding_all rfl) (by decide) (by rfl) (by decide) (by rfl) (by rfl) (by rfl) ?_); k_dflt lcg_toSrc))
  k_with "CompSrc" => ((k_here; k_dflt (first | (refine LCg.CompSrc.ledger (by rfl) (by k_asm) (by k_asm) (by k_mem) (by first | exact Nat.le_of_ble_eq_true rfl | size_fits) ?_; intro g'; lcg_lit) | (refine LCg.CompSrc.range (by rfl) (by k_asm) (by k_asm) (by assumption) (by first | decide | rfl) (by first | rfl | decide) (by first | exact Nat.le_of_ble_eq_true rfl | size_fits) ?_; intro g'; lcg_lit))))
  k_with "binaryOp Pow int int" => ((k_here; with_reducible refine pow_pw ?kb1 ?kb2 ?_; (case kb1 => assumption); (case kb2 => assumption)))
  k_with "binaryOp Mult int int" => ((k_here; with_reducible refine mul_pw ?kb1 ?kb2 ?_; (case kb1 => assumption); (case kb2 => assumption)))
  k_with "binaryOp BitXor int int" => ((k_here; with_reducible refine xor_xr ?_))
  k_with "CompRest" => ((with_unfolding_all first | (refine LCg.CompRest.succ ?_; intro v' I' oI' C' oC' D' m' h' tk' E' hv' hC' hx' F' N' off' ne'; (first | lcg_open hv' | (obtain ⟨t9', hv9'⟩ := hv'; subst hv9')); (obtain ⟨neIC', neID', neCD'⟩ := ne')) | refine LCg.CompRest.zero ?_))
  k_with "lcg_off" => (with_reducible assumption)
  k_with "CompEnd" => (lcg_end)
  k_with "eval Name" => ((k_here; k_dflt (first
  | (refine' nameX_L ?F ?v ?_ ?a ?b; (case F => k_asm); (case a => rfl); (case b => rfl); (case v => rfl); k_whole)
  | (refine' nameX_C ?N ?c ?m ?d ?_ ?a ?b; (case a => rfl); (case b => rfl); (case N => k_asm); (case c => rfl); (case m => k_mem); (case d => k_asm); k_whole)
  | (refine' nameX_K ?F ?X ?T ?e ?_ ?a ?b; (case F => k_asm); (case X => k_asm); (case T => k_asm); (case a => rfl); (case b => rfl); (case e => k_is); k_whole))))
  k_with "eval Name" => ((k_here; (with_reducible show wpAny _ _ (eval (PySem.Expr.Name _ _) (compEnvC _ _ _ _)) _ _ _); k_dflt (first
  | (refine LCgL.ld_own (by k_asm) (by k_mem) (by assumption) (by assumption) ?_)
  | (refine' lcf_cell ?N ?c ?m ?d ?_ ?a ?b; (case a => rfl); (case b => rfl); (case N => k_asm); (case c => rfl); (case m => k_mem); (case d => k_asm); k_whole)
  | (refine' lcf_free ?N ?c ?m ?d ?_ ?a ?b; (case a => rfl); (case b => rfl); (case N => k_asm); (case c => rfl); (case m => k_mem); (case d => k_asm); k_whole)
  | (refine LCgL.ld_global (by k_asm) (by k_asm) (by k_asm) (by k_is) ?_))))
  k_with "FinE" => (((unfold LCg.FinE); intro D' h' tk' F' N' oq9'; (try simp only [List.nil_append, List.cons_append] at N'); (try dsimp only)))
  k_with "FinA" => (((unfold LCg.FinA); intro D' h' tk' F' N' oq9'; (try simp only [List.nil_append, List.cons_append] at N'); (try dsimp only)))
  k_with "k_ne" => (((try dsimp only); first
  | (with_reducible assumption)
  | (with_reducible exact Ne.symm (by assumption))
  | (refine' off1_ne ?nh ?nm; (case nh => with_reducible assumption); (case nm => k_mem))
  | (refine' off1_ne' ?nh ?nm; (case nh => with_reducible assumption); (case nm => k_mem))
  | (refine' off3_I ?nh ?nm; (case nh => with_reducible assumption); (case nm => k_mem))
  | (refine' off3_C ?nh ?nm; (case nh => with_reducible assumption); (case nm => k_mem))
  | (refine' off3_D ?nh ?nm; (case nh => with_reducible assumption); (case nm => k_mem))
  | (refine' off3_I' ?nh ?nm; (case nh => with_reducible assumption); (case nm => k_mem))
  | (refine' off3_C' ?nh ?nm; (case nh => with_reducible assumption); (case nm => k_mem))
  | (refine' off3_D' ?nh ?nm; (case nh => with_reducible assumption); (case nm => k_mem))
  | (refine' two_ne ?nh ?nm; (case nh => with_reducible assumption); (case nm => tb_start))
  | (refine' two_ne' ?nh ?nm; (case nh => with_reducible assumption); (case nm => tb_start))
  | (refine neN ?_; lia)))
  k_with "tb_start" => (first | (refine' Two.head ?th; (case th => k_mem)) | (refine' Two.tail ?tw; (case tw => tb_start)))
  k_with "call builtin:list.append" => ((k_here; (with_reducible show wpAny _ _ (PySem.call (Value.builtin _) [Value.ref _, _]) _ _ _); k_dflt (refine append_lit (by k_asm) (by k_asm) (by kl_lit) (by k_upd) (by kl_room) ?_); kl_rest))
  k_with "subscriptTail" => ((k_here; (with_reducible show wpAny _ _ (subscriptTail _ _ (Value.ref _) (Value.int _ _)) _ _ _); k_dflt (refine item_N (by k_asm) (by k_mem) (by decide) (by decide) rfl ?_ (by with_unfolding_all rfl))))
  k_with "subscriptTail Name Name ref int" => ((walk_at "subscriptTail"))
  k_with "subscriptTail Name Constant ref int" => ((walk_at "subscriptTail"))
  k_with "getItem ref int" => ((k_here; k_dflt (refine getItem_N (by k_asm) (by k_mem) (by decide) (by decide) rfl ?_)))
  k_with "getMethod ref" => ((k_here; (with_reducible show wpAny _ _ (getMethod (Value.ref _) (PySem.Str.ofString "read") _) _ _ _); k_dflt (refine kmu_own (by k_asm) (by k_asm) (by k_inst) (by k_is) (by k_is) ?_)))
  k_with "And" => (((with_reducible show FnAt _ _ ∧ _); refine ⟨FnAt.of (by k_asm) (by k_mem), ?_⟩; (try dsimp only [List.nil_append, List.cons_append])))
  k_with "k_mem" => (first | exact List.Mem.head _ | exact mem1 | exact mem2 | exact mem3 | exact mem4 | exact mem5 | exact mem6 | exact mem7 | (refine' mem8 ?_; k_mem))
  k_with "lcg_sub" => (first | exact sub_nil | (refine sub_cons (by k_mem) ?_; lcg_sub))
  k_with "kpt_turns" => (first | exact Take.head | exact tk1 | exact tk2 | exact tk3 | (refine' tk4 ?tk; (case tk => kpt_turns)))
  k_with "tb_rel" => (first | exact Pick.nil | (refine' Pick.cons ?pt ?pk; (case pt => kpt_turns); (case pk => tb_rel)))
  k_with "ktm_same2" => (first | exact True.intro | (refine off1_cons (by k_ne) ?_; ktm_same2))
  k_with "ktr_rel" => (first | exact True.intro | (refine And.intro (by ktm_same2) ?_; ktr_rel))
  k_with "ktr_room" => (first | decide | ((try simp only [depth_under_make, depth_under_kw, depth_in1, depth_deeper, depth_caller] at *); lia))
  k_with "truthy ref" => ((k_here; (with_reducible show wpAny _ _ (truthy (Value.ref _)) _ _ _); k_dflt (first
  | (refine truthy_cons (by k_asm) (by k_mem) (by with_reducible assumption) ?_)
  | (refine truthy_nil (by k_asm) (by k_mem) ?_))))
  k_with "call builtin:list.pop" => ((k_here; (with_reducible show wpAny _ _ (PySem.call (Value.builtin _) [Value.ref _, Value.int 0 _]) _ _ _); k_dflt (refine pop0_cons (by k_asm) (by k_asm) (by k_upd) (by with_reducible assumption) ?_); kl_rest))
  k_with "execs cons" => ((k_here; k_fold))
  exact True.intro


theorem words1_tokq : True := by
  k_with "call builtin:iter" => ((k_here; (with_reducible show wpAny _ _ (PySem.call (Value.builtin "iter") [Value.ref _, Value.str _ _]) _ _ _); k_dflt (refine iter_meth (by k_asm) (by k_asm) (by k_mem) ?_); (intro I' h' F' N' l1; (try k_lt l1))))
  k_with "pI" => ((k_here; k_dflt (refine citer_iter (News.get (by k_asm) (by k_mem)) ?_)))
  k_with "exec For Name Name cons nil" => ((k_here; (with_unfolding_all refine For_cit ?_ (by (intro _; rfl)) (by passes_own))))
  k_with "call ref" => ((k_here; k_dflt (refine read_at ?_); intros))
  k_with "pyNext ref" => ((k_here; k_dflt (first | refine some_at ?_ | refine none_at ?_); intros))
  k_with "compareOp In str str" => ((k_here; k_dflt (first | (refine in_str_b (b := true) (by decide +kernel) ?_) | (refine in_str_b (b := false) (by decide +kernel) ?_))))
  k_with "compareOp Eq str str" => ((k_here; (refine eq_str_ne (by with_reducible assumption) ?_)))
  k_with "inplaceOp Add str str" => ((k_here; k_dflt (refine iadd_str (hsz := (by (have z0' : PySem.Str.length (PySem.Str.ofString "") = 0 := rfl; rw [sizeLine_eq]; lia))) ?_); intro _ _))
  exact True.intro

inductive EncQ : List PySem.Str → List Value → Prop
  | nil : EncQ [] []
  | esc {c ws vs t1 t2} : PySem.Str.length c = 1 → EncQ ws vs → EncQ (c :: ws) (.str (PySem.Str.ofString "\\") t1 :: .str c t2 :: vs)
  | raw {c ws vs t} : PySem.Str.length c = 1 → c ≠ PySem.Str.ofString "\"" → c ≠ PySem.Str.ofString "\\" → EncQ ws vs → EncQ (c :: ws) (.str c t :: vs)
set_option maxHeartbeats 1000000 in
theorem tokq_spec (w : World) (x dx st dst f c' cell sl pb : Addr) (k1 k2 k3 k4 j1 j2 j3 j4 j5 tw jl jw tl : Tok) (jln : Int) (jws : PySem.Str) (jpb : Value)
    (name qual : PySem.Str) (P : Arguments) (Bd : PySem.Expr) (Sc : Scope) (cl : List (PySem.Str × Addr)) (pm ctv : Value) (oc ocell : Obj) (ln : Int) (n e : Nat) (word : List PySem.Str) (vs rest : List Value) (t0 t1 : Tok)
    (hap : Apart [x, dx, st, dst, f, c', cell, sl, pb]) (HR : Lam w f c' cell sl name qual P Bd Sc cl pm ctv oc ocell)
    (hE : EncQ word vs) (hw : List.length word ≤ 1000) (hz : List.length (vs ++ .str (PySem.Str.ofString "\"") t1 :: rest) + 5 ≤ 1000) :
    Spec w 56 3 [.ref x] ((pb, listOf #[] e) :: lexL w x dx st dst f c' cell sl pb k1 k2 k3 k4 j1 j2 j3 j4 j5 tw jl jw tl jln jws jpb name qual P Bd Sc cl pm ctv oc ocell ln (.str (PySem.Str.ofString "\"") t0 :: (vs ++ .str (PySem.Str.ofString "\"") t1 :: rest)) n)
      (fun v' news => (∃ t, v' = .str (catS (PySem.Str.ofString "") word) t) ∧ ∃ tl' n', news = (pb, listOf #[] e) :: lexL w x dx st dst f c' cell sl pb k1 k2 k3 k4 j1 j2 j3 j4 j5 tw jl jw tl' jln jws jpb name qual P Bd Sc cl pm ctv oc ocell (lnAfter (bump (PySem.Str.ofString "\"") ln) vs) rest n') := by
  unfold Spec
  w_top off
  k_fill
  intro mean mg mb p loose dp un gd fr base g s R B X T hsz H hdp hu hret
  unfold lexL at H
  k_dflt (refine enter (binds := [("self", .ref x)]) (by assumption) (by assumption) (by assumption) (by assumption) (by assumption) (by k_is) (by k_is) (by k_room) (BindsTo.of_eq rfl) (locs rfl) ?_ rfl rfl rfl (by decide))
  intro L' h' F' N' l1
  (have offK' := off1_of (fun r hr => Nat.ne_of_lt (l1 r hr)))
  (try (replace l1 := allLt_of l1; simp only [AllLt, and_true] at l1))
  (try dsimp only [List.length_cons, List.length_nil, List.reverse_cons, List.reverse_nil, List.nil_append, List.cons_append])
  (try k_fold)
  repeat' (first | (k_unfold; (try dsimp only)) | (k_end; wrow_close) | walk1 | (dsimp only; walk1) | (dsimp only; k_unfold; (try dsimp only)) | (leave1; walk_say "STEP leave1"; (try dsimp only)) | fail "no step")
  refine Turns.once ?_
  repeat' (first | (k_unfold; (try dsimp only)) | (k_end; wrow_close) | walk1 | (dsimp only; walk1) | (dsimp only; k_unfold; (try dsimp only)) | (leave1; walk_say "STEP leave1"; (try dsimp only)) | fail "no step")
  (try dsimp only)
  refine' Turns.mk (InvQ w x dx st dst f c' cell sl pb k1 k2 k3 k4 j1 j2 j3 j4 j5 tw jl jw jln jws jpb name qual P Bd Sc cl pm ctv oc ocell g s e EncQ (.str (PySem.Str.ofString "\"") t1) rest (catS (PySem.Str.ofString "") word) (lnAfter (bump (PySem.Str.ofString "\"") ln) vs) _ _ _ _) word.length ⟨?h0, ?step⟩
  case h0 =>
    refine' InvQ.mk word vs (PySem.Str.ofString "") _ _ _ _ (.str (PySem.Str.ofString "\"") t0) _ _ hE ?len rfl rfl hz (Fr.of_eq (by assumption) ?frm) (by assumption)
    case len => (show 0 + _ ≤ _); lia
    case frm =>
      intro y
      by_cases h1 : y = PySem.Str.ofString "ch"
      · subst h1; rfl
      · by_cases h2 : y = PySem.Str.ofString "token"
        · subst h2; rfl
        · by_cases h3 : y = PySem.Str.ofString "fiter"
          · subst h3; rfl
          · simp only [if_neg h1, if_neg h2, if_neg h3]
  case step =>
    rename Fr _ _ _ _ => oldF
    rename News _ _ _ _ => oldN
    clear oldF oldN
    intro k s' hI; induction hI; rename_i ws vs' tok tt lnv tlv nv ch hp tk hE' hlen hcat hln hz' F2 N2
    cases hE' with
    | nil =>
      simp only [List.nil_append] at N2; simp only [List.nil_append, List.length_cons] at hz'
      repeat' (first | (k_unfold; (try dsimp only)) | (k_end; wrow_close) | walk1 | (dsimp only; walk1) | (dsimp only; k_unfold; (try dsimp only)) | (leave1; walk_say "STEP leave1"; (try dsimp only)) | fail "no step")
      (try dsimp only)
      have hb : bump (PySem.Str.ofString "\"") lnv = lnv := if_neg (by decide)
      simp only [lnAfter] at hln
      subst hln
      simp only [hb] at *
      exact spec_end hret (by assumption) (by assumption) _ ⟨⟨_, by rw [← hcat]; rfl⟩, _, _, rfl⟩ (by unfold lexL; lcg_sub)
    | esc hc hE' =>
      have hn := one_ne hc
      simp only [List.cons_append] at N2; simp only [List.cons_append, List.length_cons] at hz'
      simp only [List.length_cons] at hlen
      repeat' (first | (k_unfold; (try dsimp only)) | (k_end; wrow_close) | walk1 | (dsimp only; walk1) | (dsimp only; k_unfold; (try dsimp only)) | (leave1; walk_say "STEP leave1"; (try dsimp only)) | fail "no step")
      (try dsimp only)
      refine' Again.mk _ (Nat.lt_succ_self _) (InvQ.mk _ _ _ _ _ _ _ _ _ _ hE' ?len hcat hln ?siz (Fr.of_eq (by assumption) ?frm) (by assumption))
      case len => rw [PySem.Str.length_append]; lia
      case siz => lia
      case frm =>
        intro y
        by_cases h1 : y = PySem.Str.ofString "ch"
        · subst h1; rfl
        · by_cases h2 : y = PySem.Str.ofString "token"
          · subst h2; rfl
          · by_cases h3 : y = PySem.Str.ofString "fiter"
            · subst h3; rfl
            · simp only [if_neg h1, if_neg h2, if_neg h3]
    | raw hc h1 h2 hE' =>
      have hn := one_ne hc
      simp only [List.cons_append] at N2; simp only [List.cons_append, List.length_cons] at hz'
      simp only [List.length_cons] at hlen
      repeat' (first | (k_unfold; (try dsimp only)) | (k_end; wrow_close) | walk1 | (dsimp only; walk1) | (dsimp only; k_unfold; (try dsimp only)) | (leave1; walk_say "STEP leave1"; (try dsimp only)) | fail "no step")
      (try dsimp only)
      refine' Again.mk _ (Nat.lt_succ_self _) (InvQ.mk _ _ _ _ _ _ _ _ _ _ hE' ?len hcat hln ?siz (Fr.of_eq (by assumption) ?frm) (by assumption))
      case len => rw [PySem.Str.length_append]; lia
      case siz => lia
      case frm =>
        intro y
        by_cases h1 : y = PySem.Str.ofString "ch"
        · subst h1; rfl
        · by_cases h2 : y = PySem.Str.ofString "token"
          · subst h2; rfl
          · by_cases h3 : y = PySem.Str.ofString "fiter"
            · subst h3; rfl
            · simp only [if_neg h1, if_neg h2, if_neg h3]

inductive EncW : List PySem.Str → List Value → Prop
  | nil : EncW [] []
  | esc {c ws vs t1 t2} : PySem.Str.length c = 1 → EncW ws vs → EncW (c :: ws) (.str (PySem.Str.ofString "\\") t1 :: .str c t2 :: vs)
set_option maxHeartbeats 1000000 in
theorem tokw_spec (w : World) (x dx st dst f c' cell sl pb : Addr) (k1 k2 k3 k4 j1 j2 j3 j4 j5 tw jl jw tl : Tok) (jln : Int) (jws : PySem.Str) (jpb : Value)
    (name qual : PySem.Str) (P : Arguments) (Bd : PySem.Expr) (Sc : Scope) (cl : List (PySem.Str × Addr)) (pm ctv : Value) (oc ocell : Obj) (ln : Int) (n e : Nat) (c₀ stop : PySem.Str) (word : List PySem.Str) (vs rest : List Value) (t0 t1 t2 : Tok)
    (hap : Apart [x, dx, st, dst, f, c', cell, sl, pb]) (HR : Lam w f c' cell sl name qual P Bd Sc cl pm ctv oc ocell)
    (hE : EncW word vs) (hc₀ : PySem.Str.length c₀ = 1) (hs : stop = PySem.Str.ofString "\t" ∨ stop = PySem.Str.ofString "\n") (hw : List.length word + 1 ≤ 1000) (hz : List.length (vs ++ .str stop t2 :: rest) + 7 ≤ 1000) :
    Spec w 56 3 [.ref x] ((pb, listOf #[] e) :: lexL w x dx st dst f c' cell sl pb k1 k2 k3 k4 j1 j2 j3 j4 j5 tw jl jw tl jln jws jpb name qual P Bd Sc cl pm ctv oc ocell ln (.str (PySem.Str.ofString "\\") t0 :: .str c₀ t1 :: (vs ++ .str stop t2 :: rest)) n)
      (fun v' news => (∃ t, v' = .str (catS (PySem.Str.ofString "") (c₀ :: word)) t) ∧ ∃ tl' n', news = (pb, listOf #[] e) :: lexL w x dx st dst f c' cell sl pb k1 k2 k3 k4 j1 j2 j3 j4 j5 tw jl jw tl' jln jws jpb name qual P Bd Sc cl pm ctv oc ocell (bump stop (lnAfter (bump c₀ (bump (PySem.Str.ofString "\\") ln)) vs)) rest n') := by
  unfold Spec
  w_top off
  k_fill
  intro mean mg mb p loose dp un gd fr base g s R B X T hsz H hdp hu hret
  unfold lexL at H
  have hn₀ := one_ne hc₀
  k_dflt (refine enter (binds := [("self", .ref x)]) (by assumption) (by assumption) (by assumption) (by assumption) (by assumption) (by k_is) (by k_is) (by k_room) (BindsTo.of_eq rfl) (locs rfl) ?_ rfl rfl rfl (by decide))
  intro L' h' F' N' l1
  (have offK' := off1_of (fun r hr => Nat.ne_of_lt (l1 r hr)))
  (try (replace l1 := allLt_of l1; simp only [AllLt, and_true] at l1))
  (try dsimp only [List.length_cons, List.length_nil, List.reverse_cons, List.reverse_nil, List.nil_append, List.cons_append])
  (try k_fold)
  repeat' (first | (k_unfold; (try dsimp only)) | (k_end; wrow_close) | walk1 | (dsimp only; walk1) | (dsimp only; k_unfold; (try dsimp only)) | (leave1; walk_say "STEP leave1"; (try dsimp only)) | fail "no step")
  refine Turns.once ?_
  repeat' (first | (k_unfold; (try dsimp only)) | (k_end; wrow_close) | walk1 | (dsimp only; walk1) | (dsimp only; k_unfold; (try dsimp only)) | (leave1; walk_say "STEP leave1"; (try dsimp only)) | fail "no step")
  (try dsimp only)
  refine' Turns.mk (InvQ w x dx st dst f c' cell sl pb k1 k2 k3 k4 j1 j2 j3 j4 j5 tw jl jw jln jws jpb name qual P Bd Sc cl pm ctv oc ocell g s e EncW (.str stop t2) rest (catS (PySem.Str.ofString "") (c₀ :: word)) (lnAfter (bump c₀ (bump (PySem.Str.ofString "\\") ln)) vs) _ _ _ _) word.length ⟨?h0, ?step⟩
  case h0 =>
    refine' InvQ.mk word vs (PySem.Str.ofString "" ++ c₀) _ _ _ _ (.str c₀ t1) _ _ hE ?len rfl rfl ?siz (Fr.of_eq (by assumption) ?frm) (by assumption)
    case len => rw [PySem.Str.length_append, hc₀]; show 0 + 1 + _ ≤ _; lia
    case siz => lia
    case frm =>
      intro y
      by_cases h1 : y = PySem.Str.ofString "ch"
      · subst h1; rfl
      · by_cases h2 : y = PySem.Str.ofString "token"
        · subst h2; rfl
        · by_cases h3 : y = PySem.Str.ofString "fiter"
          · subst h3; rfl
          · simp only [if_neg h1, if_neg h2, if_neg h3]
  case step =>
    rename Fr _ _ _ _ => oldF
    rename News _ _ _ _ => oldN
    clear oldF oldN
    intro k s' hI; induction hI; rename_i ws vs' tok tt lnv tlv nv ch hp tk hE' hlen hcat hln hz' F2 N2
    cases hE' with
    | nil =>
      simp only [List.nil_append] at N2; simp only [List.nil_append, List.length_cons] at hz'
      simp only [lnAfter] at hln
      subst hln
      rcases hs with e1 | e1
      all_goals (
        subst e1
        repeat' (first | (k_unfold; (try dsimp only)) | (k_end; wrow_close) | walk1 | (dsimp only; walk1) | (dsimp only; k_unfold; (try dsimp only)) | (leave1; walk_say "STEP leave1"; (try dsimp only)) | fail "no step")
        (try dsimp only)
        exact spec_end hret (by assumption) (by assumption) _ ⟨⟨_, by rw [← hcat]; rfl⟩, _, _, rfl⟩ (by unfold lexL; lcg_sub))
    | esc hc hE' =>
      have hn := one_ne hc
      simp only [List.cons_append] at N2; simp only [List.cons_append, List.length_cons] at hz'
      simp only [List.length_cons] at hlen
      repeat' (first | (k_unfold; (try dsimp only)) | (k_end; wrow_close) | walk1 | (dsimp only; walk1) | (dsimp only; k_unfold; (try dsimp only)) | (leave1; walk_say "STEP leave1"; (try dsimp only)) | fail "no step")
      (try dsimp only)
      refine' Again.mk _ (Nat.lt_succ_self _) (InvQ.mk _ _ _ _ _ _ _ _ _ _ hE' ?len hcat hln ?siz (Fr.of_eq (by assumption) ?frm) (by assumption))
      case len => rw [PySem.Str.length_append]; lia
      case siz => lia
      case frm =>
        intro y
        by_cases h1 : y = PySem.Str.ofString "ch"
        · subst h1; rfl
        · by_cases h2 : y = PySem.Str.ofString "token"
          · subst h2; rfl
          · by_cases h3 : y = PySem.Str.ofString "fiter"
            · subst h3; rfl
            · simp only [if_neg h1, if_neg h2, if_neg h3]

inductive White : List Value → Prop
  | nil : White []
  | nl {vs t} : White vs → White (.str (PySem.Str.ofString "\n") t :: vs)
  | sp {vs t} : White vs → White (.str (PySem.Str.ofString " ") t :: vs)
set_option maxHeartbeats 1000000 in
theorem toke_spec (w : World) (x dx st dst f c' cell sl pb : Addr) (k1 k2 k3 k4 j1 j2 j3 j4 j5 tw jl jw tl : Tok) (jln : Int) (jws : PySem.Str) (jpb : Value)
    (name qual : PySem.Str) (P : Arguments) (Bd : PySem.Expr) (Sc : Scope) (cl : List (PySem.Str × Addr)) (pm ctv : Value) (oc ocell : Obj) (ln : Int) (n e : Nat) (vs : List Value)
    (hap : Apart [x, dx, st, dst, f, c', cell, sl, pb]) (HR : Lam w f c' cell sl name qual P Bd Sc cl pm ctv oc ocell)
    (hE : White vs) (hz : List.length vs + 7 ≤ 1000) :
    Spec w 56 3 [.ref x] ((pb, listOf #[] e) :: lexL w x dx st dst f c' cell sl pb k1 k2 k3 k4 j1 j2 j3 j4 j5 tw jl jw tl jln jws jpb name qual P Bd Sc cl pm ctv oc ocell ln vs n)
      (fun v' news => (∃ t, v' = .str (PySem.Str.ofString "") t) ∧ ∃ tl' n', news = (pb, listOf #[] e) :: lexL w x dx st dst f c' cell sl pb k1 k2 k3 k4 j1 j2 j3 j4 j5 tw jl jw tl' jln jws jpb name qual P Bd Sc cl pm ctv oc ocell (lnAfter ln vs) [] n') := by
  unfold Spec
  w_top off
  k_fill
  intro mean mg mb p loose dp un gd fr base g s R B X T hsz H hdp hu hret
  unfold lexL at H
  k_dflt (refine enter (binds := [("self", .ref x)]) (by assumption) (by assumption) (by assumption) (by assumption) (by assumption) (by k_is) (by k_is) (by k_room) (BindsTo.of_eq rfl) (locs rfl) ?_ rfl rfl rfl (by decide))
  intro L' h' F' N' l1
  (have offK' := off1_of (fun r hr => Nat.ne_of_lt (l1 r hr)))
  (try (replace l1 := allLt_of l1; simp only [AllLt, and_true] at l1))
  (try dsimp only [List.length_cons, List.length_nil, List.reverse_cons, List.reverse_nil, List.nil_append, List.cons_append])
  (try k_fold)
  repeat' (first | (k_unfold; (try dsimp only)) | (k_end; wrow_close) | walk1 | (dsimp only; walk1) | (dsimp only; k_unfold; (try dsimp only)) | (leave1; walk_say "STEP leave1"; (try dsimp only)) | fail "no step")
  (try dsimp only)
  refine' Turns.mk (InvE w x dx st dst f c' cell sl pb k1 k2 k3 k4 j1 j2 j3 j4 j5 tw jl jw jln jws jpb name qual P Bd Sc cl pm ctv oc ocell g s e White (lnAfter ln vs) _ _ _ _) vs.length ⟨?h0, ?step⟩
  case h0 =>
    refine' InvE.mk vs _ _ _ _ none _ _ hE rfl hz (Fr.of_eq (by assumption) ?frm) (News.sub (by assumption) ?nws)
    case nws => lcg_sub
    case frm =>
      intro y
      by_cases h1 : y = PySem.Str.ofString "ch"
      · subst h1; rfl
      · by_cases h2 : y = PySem.Str.ofString "token"
        · subst h2; rfl
        · by_cases h3 : y = PySem.Str.ofString "fiter"
          · subst h3; rfl
          · simp only [if_neg h1, if_neg h2, if_neg h3]
  case step =>
    rename Fr _ _ _ _ => oldF
    rename News _ _ _ _ => oldN
    clear oldF oldN
    intro k s' hI; induction hI; rename_i vs' tt lnv tlv nv ch hp tk hE' hln hz' F2 N2
    cases hE' with
    | nil =>
      simp only [lnAfter] at hln
      subst hln
      repeat' (first | (k_unfold; (try dsimp only)) | (k_end; wrow_close) | walk1 | (dsimp only; walk1) | (dsimp only; k_unfold; (try dsimp only)) | (leave1; walk_say "STEP leave1"; (try dsimp only)) | fail "no step")
      (try dsimp only)
      exact spec_end hret (by assumption) (by assumption) _ ⟨⟨_, rfl⟩, _, _, rfl⟩ (by unfold lexL; lcg_sub)
    | nl hE' =>
      simp only [List.length_cons] at hz'
      repeat' (first | (k_unfold; (try dsimp only)) | (k_end; wrow_close) | walk1 | (dsimp only; walk1) | (dsimp only; k_unfold; (try dsimp only)) | (leave1; walk_say "STEP leave1"; (try dsimp only)) | fail "no step")
      (try dsimp only)
      refine' Again.mk _ (Nat.lt_succ_self _) (InvE.mk _ _ _ _ _ _ _ _ hE' hln ?siz (Fr.of_eq (by assumption) ?frm) (by assumption))
      case siz => lia
      case frm =>
        intro y
        by_cases h1 : y = PySem.Str.ofString "ch"
        · subst h1; rfl
        · by_cases h2 : y = PySem.Str.ofString "token"
          · subst h2; rfl
          · by_cases h3 : y = PySem.Str.ofString "fiter"
            · subst h3; rfl
            · simp only [if_neg h1, if_neg h2, if_neg h3]
    | sp hE' =>
      simp only [List.length_cons] at hz'
      repeat' (first | (k_unfold; (try dsimp only)) | (k_end; wrow_close) | walk1 | (dsimp only; walk1) | (dsimp only; k_unfold; (try dsimp only)) | (leave1; walk_say "STEP leave1"; (try dsimp only)) | fail "no step")
      (try dsimp only)
      refine' Again.mk _ (Nat.lt_succ_self _) (InvE.mk _ _ _ _ _ _ _ _ hE' hln ?siz (Fr.of_eq (by assumption) ?frm) (by assumption))
      case siz => lia
      case frm =>
        intro y
        by_cases h1 : y = PySem.Str.ofString "ch"
        · subst h1; rfl
        · by_cases h2 : y = PySem.Str.ofString "token"
          · subst h2; rfl
          · by_cases h3 : y = PySem.Str.ofString "fiter"
            · subst h3; rfl
            · simp only [if_neg h1, if_neg h2, if_neg h3]

end

section
theorem words_order : True := by
  k_with_none
  k_with "k_room" => (first | decide | ((try simp only [depth_under_make, depth_under_kw, depth_in1, depth_deeper, depth_caller]); lia))
  k_with "eval ListComp" => ((k_here; k_dflt (refine LCg.ListComp_U (F₀ := by k_asm) (by with_unfolding_all rfl) (by decide) (by rfl) (by decide) (by rfl) ?_); k_dflt lcg_toSrc))
  k_with "exec Assign cons ListComp" => ((k_here; k_dflt (refine LCg.Assign_ListComp_U (F₀ := by k_asm) (by rfl) (by with_unfolding_all rfl) (by with_unfolding_all rfl) (by decide) (by rfl) (by decide) (by rfl) (by rfl) (by rfl) ?_); k_dflt lcg_toSrc))
  k_with "CompSrc" => ((k_here; k_dflt (first | (refine LCg.CompSrc.ledger (by rfl) (by k_asm) (by k_asm) (by k_mem) (by first | exact Nat.le_of_ble_eq_true rfl | size_fits) ?_; intro g'; lcg_lit) | (refine LCg.CompSrc.range (by rfl) (by k_asm) (by k_asm) (by assumption) (by first | decide | rfl) (by first | rfl | decide) (by first | exact Nat.le_of_ble_eq_true rfl | size_fits) ?_; intro g'; lcg_lit))))
  k_with "binaryOp Pow int int" => ((k_here; with_reducible refine pow_pw ?kb1 ?kb2 ?_; (case kb1 => assumption); (case kb2 => assumption)))
  k_with "binaryOp Mult int int" => ((k_here; with_reducible refine mul_pw ?kb1 ?kb2 ?_; (case kb1 => assumption); (case kb2 => assumption)))
  k_with "binaryOp BitXor int int" => ((k_here; with_reducible refine xor_xr ?_))
  k_with "CompRest" => ((with_unfolding_all first | (refine LCg.CompRest.succ ?_; intro v' I' oI' C' oC' D' m' h' tk' E' hv' hC' hx' F' N' off' ne'; (first | lcg_open hv' | (obtain ⟨t9', hv9'⟩ := hv'; subst hv9')); (obtain ⟨neIC', neID', neCD'⟩ := ne')) | refine LCg.CompRest.zero ?_))
  k_with "lcg_off" => (with_reducible assumption)
  k_with "CompEnd" => (lcg_end)
  k_with "eval Name" => ((k_here; k_dflt (first
  | (refine' nameX_L ?F ?v ?_ ?a ?b; (case F => k_asm); (case a => rfl); (case b => rfl); (case v => rfl); k_whole)
  | (refine' nameX_C ?N ?c ?m ?d ?_ ?a ?b; (case a => rfl); (case b => rfl); (case N => k_asm); (case c => rfl); (case m => k_mem); (case d => k_asm); k_whole)
  | (refine' nameX_K ?F ?X ?T ?e ?_ ?a ?b; (case F => k_asm); (case X => k_asm); (case T => k_asm); (case a => rfl); (case b => rfl); (case e => k_is); k_whole))))
  k_with "eval Name" => ((k_here; (with_reducible show wpAny _ _ (eval (PySem.Expr.Name _ _) (compEnvC _ _ _ _)) _ _ _); k_dflt (first
  | (refine LCgL.ld_own (by k_asm) (by k_mem) (by assumption) (by assumption) ?_)
  | (refine' lcf_cell ?N ?c ?m ?d ?_ ?a ?b; (case a => rfl); (case b => rfl); (case N => k_asm); (case c => rfl); (case m => k_mem); (case d => k_asm); k_whole)
  | (refine' lcf_free ?N ?c ?m ?d ?_ ?a ?b; (case a => rfl); (case b => rfl); (case N => k_asm); (case c => rfl); (case m => k_mem); (case d => k_asm); k_whole)
  | (refine LCgL.ld_global (by k_asm) (by k_asm) (by k_asm) (by k_is) ?_))))
  k_with "FinE" => (((unfold LCg.FinE); intro D' h' tk' F' N' oq9'; (try simp only [List.nil_append, List.cons_append] at N'); (try dsimp only)))
  k_with "FinA" => (((unfold LCg.FinA); intro D' h' tk' F' N' oq9'; (try simp only [List.nil_append, List.cons_append] at N'); (try dsimp only)))
  k_with "k_ne" => (((try dsimp only); first
  | (with_reducible assumption)
  | (with_reducible exact Ne.symm (by assumption))
  | (refine' off1_ne ?nh ?nm; (case nh => with_reducible assumption); (case nm => k_mem))
  | (refine' off1_ne' ?nh ?nm; (case nh => with_reducible assumption); (case nm => k_mem))
  | (refine' off3_I ?nh ?nm; (case nh => with_reducible assumption); (case nm => k_mem))
  | (refine' off3_C ?nh ?nm; (case nh => with_reducible assumption); (case nm => k_mem))
  | (refine' off3_D ?nh ?nm; (case nh => with_reducible assumption); (case nm => k_mem))
  | (refine' off3_I' ?nh ?nm; (case nh => with_reducible assumption); (case nm => k_mem))
  | (refine' off3_C' ?nh ?nm; (case nh => with_reducible assumption); (case nm => k_mem))
  | (refine' off3_D' ?nh ?nm; (case nh => with_reducible assumption); (case nm => k_mem))
  | (refine' two_ne ?nh ?nm; (case nh => with_reducible assumption); (case nm => tb_start))
  | (refine' two_ne' ?nh ?nm; (case nh => with_reducible assumption); (case nm => tb_start))
  | (refine neN ?_; lia)))
  k_with "tb_start" => (first | (refine' Two.head ?th; (case th => k_mem)) | (refine' Two.tail ?tw; (case tw => tb_start)))
  k_with "call builtin:list.append" => ((k_here; (with_reducible show wpAny _ _ (PySem.call (Value.builtin _) [Value.ref _, _]) _ _ _); k_dflt (refine append_lit (by k_asm) (by k_asm) (by kl_lit) (by k_upd) (by kl_room) ?_); kl_rest))
  k_with "subscriptTail" => ((k_here; (with_reducible show wpAny _ _ (subscriptTail _ _ (Value.ref _) (Value.int _ _)) _ _ _); k_dflt (refine item_N (by k_asm) (by k_mem) (by decide) (by decide) rfl ?_ (by with_unfolding_all rfl))))
  k_with "subscriptTail Name Name ref int" => ((walk_at "subscriptTail"))
  k_with "subscriptTail Name Constant ref int" => ((walk_at "subscriptTail"))
  k_with "getItem ref int" => ((k_here; k_dflt (refine getItem_N (by k_asm) (by k_mem) (by decide) (by decide) rfl ?_)))
  k_with "getMethod ref" => ((k_here; (with_reducible show wpAny _ _ (getMethod (Value.ref _) (PySem.Str.ofString "read") _) _ _ _); k_dflt (refine kmu_own (by k_asm) (by k_asm) (by k_inst) (by k_is) (by k_is) ?_)))
  k_with "And" => (((with_reducible show FnAt _ _ ∧ _); refine ⟨FnAt.of (by k_asm) (by k_mem), ?_⟩; (try dsimp only [List.nil_append, List.cons_append])))
  k_with "k_mem" => (first | exact List.Mem.head _ | exact mem1 | exact mem2 | exact mem3 | exact mem4 | exact mem5 | exact mem6 | exact mem7 | (refine' mem8 ?_; k_mem))
  k_with "lcg_sub" => (first | exact sub_nil | (refine sub_cons (by k_mem) ?_; lcg_sub))
  k_with "kpt_turns" => (first | exact Take.head | exact tk1 | exact tk2 | exact tk3 | (refine' tk4 ?tk; (case tk => kpt_turns)))
  k_with "tb_rel" => (first | exact Pick.nil | (refine' Pick.cons ?pt ?pk; (case pt => kpt_turns); (case pk => tb_rel)))
  k_with "ktm_same2" => (first | exact True.intro | (refine off1_cons (by k_ne) ?_; ktm_same2))
  k_with "ktr_rel" => (first | exact True.intro | (refine And.intro (by ktm_same2) ?_; ktr_rel))
  k_with "ktr_room" => (first | decide | ((try simp only [depth_under_make, depth_under_kw, depth_in1, depth_deeper, depth_caller] at *); lia))
  k_with "truthy ref" => ((k_here; (with_reducible show wpAny _ _ (truthy (Value.ref _)) _ _ _); k_dflt (first
  | (refine truthy_cons (by k_asm) (by k_mem) (by with_reducible assumption) ?_)
  | (refine truthy_nil (by k_asm) (by k_mem) ?_))))
  k_with "call builtin:list.pop" => ((k_here; (with_reducible show wpAny _ _ (PySem.call (Value.builtin _) [Value.ref _, Value.int 0 _]) _ _ _); k_dflt (refine pop0_cons (by k_asm) (by k_asm) (by k_upd) (by with_reducible assumption) ?_); kl_rest))
  k_with "execs cons" => ((k_here; k_fold))
  exact True.intro

theorem updF_of {d : Addr} {o o' : Obj} {l : List (Addr × Obj)} {g : Obj → List (Addr × Obj)} (U : UpdF d o l g) : Upd d o o' l (g o') := by
  induction U with
  | head h => exact .head h
  | tail h _ ih => exact .tail h ih
/-- vs' is vs without one y -/
noncomputable def Cut (vs : List Value) (y : Value) (vs' : List Value) : Prop := ∃ p q, vs = p ++ y :: q ∧ vs' = p ++ q
theorem cut_last {p q : List Value} {y : Value} : kl_cut (p ++ y :: q) p.length = some (p, y, q) := by
  induction p with
  | nil => rfl
  | cons x p ih => show (match kl_cut (p ++ y :: q) p.length with | some (p, y, q) => some (x :: p, y, q) | none => none) = _; rw [ih]
section
variable {prog : Program} {w : World} {A : Around} {E : Value → Shared → Prop} {s : Shared} {h₀ : Heap} {L D : Addr} {m : PySem.Str → Option Value} {news : List (Addr × Obj)} {g : Obj → List (Addr × Obj)}
/-- a pop at a place that is not written -/
theorem pop_sym {vs : List Value} {n : Nat} {i : Int} {u : Tok} {Q : Value → Shared → Prop} (F : Fr h₀ L s.heap m) (N : News h₀ L s.heap news) (U : UpdF D (listOf vs.toArray n) news g)
    (h0 : 0 ≤ i) (hi : i < vs.length) (hz : vs.length ≤ 1000)
    (h : ∀ y vs' h', Cut vs y vs' → vs'.length + 1 = vs.length → Fr h₀ L h' m → News h₀ L h' (g (listOf vs'.toArray (n + 1))) → Q y { s with heap := h' }) :
    wpAny (model prog w) A (PySem.call (.builtin "list.pop") [.ref D, .int i u]) Q E s := by
  have hlt : i.toNat < vs.length := by lia
  have e1 : vs = vs.take i.toNat ++ vs[i.toNat] :: vs.drop (i.toNat + 1) := by
    rw [← List.drop_eq_getElem_cons hlt, List.take_append_drop]
  have hlen : (vs.take i.toNat).length = i.toNat := by rw [List.length_take]; lia
  have hl : (vs.take i.toNat ++ vs.drop (i.toNat + 1)).length + 1 = vs.length := by rw [List.length_append, hlen, List.length_drop]; lia
  refine kl_popAt (k := i.toNat) (p := vs.take i.toNat) (y := vs[i.toNat]) (q := vs.drop (i.toNat + 1)) F N ?_ ?_ ?_ (updF_of U) ?_ (fun h' F' N' => h _ _ h' ⟨_, _, e1, rfl⟩ hl F' N')
  · unfold Builtin.List.listFitsIndex
    have : i < 1000 := by lia
    simp only [Bool.and_eq_true, decide_eq_true_eq]
    constructor <;> lia
  · unfold seqIndex?
    simp only [List.size_toArray, if_neg (show ¬ i < 0 by lia)]
    rw [if_pos (by simp only [Bool.and_eq_true, decide_eq_true_eq]; lia)]
  · have := cut_last (p := vs.take i.toNat) (q := vs.drop (i.toNat + 1)) (y := vs[i.toNat])
    rw [hlen, ← e1] at this
    exact this
  · rw [sizeLine_eq]; show vs.length ≤ _; lia
end
theorem cut_perm {vs vs' : List Value} {y : Value} (h : Cut vs y vs') : vs.Perm (y :: vs') := by
  obtain ⟨p, q, rfl, rfl⟩ := h
  exact List.perm_middle
theorem ints_perm {vs us : List Value} (h : vs.Perm us) : ∀ {ns : List Int}, IntsAre us ns → ∃ ms, IntsAre vs ms ∧ ms.Perm ns := by
  induction h with
  | nil => intro ns h; cases h; exact ⟨[], .nil, .nil⟩
  | cons x _ ih => intro ns h; cases h with | cons n t h => obtain ⟨ms, h1, h2⟩ := ih h; exact ⟨_, .cons n t h1, h2.cons _⟩
  | swap x y l => intro ns h; cases h with | cons n t h => cases h with | cons n' t' h => exact ⟨_, .cons n' t' (.cons n t h), .swap _ _ _⟩
  | trans _ _ ih1 ih2 => intro ns h; obtain ⟨ms, h1, h2⟩ := ih2 h; obtain ⟨ks, h3, h4⟩ := ih1 h1; exact ⟨ks, h3, h4.trans h2⟩
theorem five {x y1 y2 y3 y4 y5 : Value} {v0 v1 v2 v3 v4 v5 : List Value} {ns : List Int} (c1 : Cut (x :: v0) y1 v1) (c2 : Cut v1 y2 v2) (c3 : Cut v2 y3 v3) (c4 : Cut v3 y4 v4) (c5 : Cut v4 y5 v5) (hl : v5.length = 0) (h : IntsAre (x :: v0) ns) :
    ∃ ms, IntsAre [y1, y2, y3, y4, y5] ms ∧ ms.Perm ns := by
  obtain rfl := List.length_eq_zero_iff.mp hl
  exact ints_perm ((cut_perm c1).trans (.cons _ ((cut_perm c2).trans (.cons _ ((cut_perm c3).trans (.cons _ ((cut_perm c4).trans (.cons _ (cut_perm c5)))))))) |>.symm) h
theorem words1_order : True := by
  k_with "call builtin:list.pop" => ((k_here; (with_reducible show wpAny _ _ (PySem.call (Value.builtin _) [Value.ref _, Value.int _ _]) _ _ _); k_dflt (refine pop_sym (by k_asm) (by k_asm) (by k_updF) (Int.fmod_nonneg_of_pos _ (by decide)) (by exact Int.lt_of_lt_of_le (Int.fmod_lt_of_pos _ (by decide)) (by first | lia | (simp; done))) (by first | lia | (simp; done)) ?_); (intro y' v' h' c' hl' F' N'; (try simp only [List.length_cons, List.length_nil] at hl'); (try dsimp only at N'))))
  exact True.intro

set_option maxHeartbeats 8000000 in
theorem order_spec (w : World) (n : Int) (tn : Tok) (hn : 0 ≤ n) :
    Spec w 154 1 [.int n tn] [] (fun v news => ∃ l vs e ns, v = .ref l ∧ news = [(l, listOf vs.toArray e)] ∧ IntsAre vs ns ∧ ns.Perm [0, 1, 2, 3, 4]) := by
  unfold Spec
  w_top off
  k_fill
  intro mean mg mb p loose dp un gd fr base g s R B X T hsz H hdp hu hret
  k_dflt (refine enter (binds := [("n", .int n tn)]) (by assumption) (by assumption) (by assumption) (by assumption) (by assumption) (by k_is) (by k_is) (by k_room) (BindsTo.of_eq rfl) (locs rfl) ?_ rfl rfl rfl (by decide))
  intro L' h' F' N' l1
  (have offK' := off1_of (fun r hr => Nat.ne_of_lt (l1 r hr)))
  (try (replace l1 := allLt_of l1; simp only [AllLt, and_true] at l1))
  (try dsimp only [List.length_cons, List.length_nil, List.reverse_cons, List.reverse_nil, List.nil_append, List.cons_append])
  (try k_fold)
  repeat' (first | (k_unfold; (try dsimp only)) | (k_end; wrow_close) | walk1 | (dsimp only; walk1) | (dsimp only; k_unfold; (try dsimp only)) | (leave1; walk_say "STEP leave1"; (try dsimp only)) | fail "no step")
  all_goals (
    obtain ⟨ns, i1, i2⟩ := five (by assumption) (by assumption) (by assumption) (by assumption) (by assumption) (by simp_all) (.cons 0 _ (.cons 1 _ (.cons 2 _ (.cons 3 _ (.cons 4 _ .nil)))))
    exact spec_end hret (by assumption) (by assumption) [(_, listOf (List.toArray _) _)] ⟨_, _, _, _, rfl, rfl, i1, i2⟩ (fun q hq => by rw [List.mem_singleton] at hq; subst hq; exact List.Mem.head _))
theorem perm_mem {o : Int} {l : List Int} (h : l.Perm [0, 1, 2, 3, 4]) (hm : o ∈ l) : 0 ≤ o ∧ o ≤ 4 := by
  have := h.mem_iff.mp hm
  simp only [List.mem_cons, List.not_mem_nil, or_false] at this
  lia
theorem order2_spec (w : World) (n : Int) (tn : Tok) (hn : 0 ≤ n) :
    Spec w 154 1 [.int n tn] [] (fun v news => ∃ l e o0 o1 o2 o3 o4 t0 t1 t2 t3 t4, v = .ref l ∧ news = [(l, listOf #[.int o0 t0, .int o1 t1, .int o2 t2, .int o3 t3, .int o4 t4] e)] ∧ [o0, o1, o2, o3, o4].Perm [0, 1, 2, 3, 4] ∧
      (0 ≤ o0 ∧ o0 ≤ 4) ∧ (0 ≤ o1 ∧ o1 ≤ 4) ∧ (0 ≤ o2 ∧ o2 ≤ 4) ∧ (0 ≤ o3 ∧ o3 ≤ 4) ∧ (0 ≤ o4 ∧ o4 ≤ 4)) :=
  fun mean mg mb p loose dp un gd fr base g s R B X T hsz H hdp hu hret => order_spec w n tn hn mean mg mb p loose dp un gd fr base g s R B X T hsz H hdp hu fun v news h' tk' hp => by
    obtain ⟨l, vs, e, ns, rfl, rfl, hI, hP⟩ := hp
    have hl := hP.length_eq
    obtain ⟨a, b, c, d, f, rfl⟩ := len5 hl
    cases hI with | cons _ t0 hI => cases hI with | cons _ t1 hI => cases hI with | cons _ t2 hI => cases hI with | cons _ t3 hI => cases hI with | cons _ t4 hI =>
      cases hI
      exact hret _ _ h' tk' ⟨l, e, a, b, c, d, f, t0, t1, t2, t3, t4, rfl, rfl, hP, perm_mem hP (by simp), perm_mem hP (by simp), perm_mem hP (by simp), perm_mem hP (by simp), perm_mem hP (by simp)⟩

end

section
theorem words_ops : True := by
  k_with_none
  k_with "k_room" => (first | decide | ((try simp only [depth_under_make, depth_under_kw, depth_in1, depth_deeper, depth_caller]); lia))
  k_with "eval ListComp" => ((k_here; k_dflt (refine LCg.ListComp_U (F₀ := by k_asm) (by with_unfolding_all rfl) (by decide) (by rfl) (by decide) (by rfl) ?_); k_dflt lcg_toSrc))
  k_with "exec Assign cons ListComp" => ((k_here; k_dflt (refine LCg.Assign_ListComp_U (F₀ := by k_asm) (by rfl) (by with_unfolding_all rfl) (by with_unfolding_all rfl) (by decide) (by rfl) (by decide) (by rfl) (by rfl) (by rfl) ?_); k_dflt lcg_toSrc))
  k_with "CompSrc" => ((k_here; k_dflt (first | (refine LCg.CompSrc.ledger (by rfl) (by k_asm) (by k_asm) (by k_mem) (by first | exact Nat.le_of_ble_eq_true rfl | size_fits) ?_; intro g'; lcg_lit) | (refine LCg.CompSrc.range (by rfl) (by k_asm) (by k_asm) (by assumption) (by first | decide | rfl) (by first | rfl | decide) (by first | exact Nat.le_of_ble_eq_true rfl | size_fits) ?_; intro g'; lcg_lit))))
  k_with "binaryOp Pow int int" => ((k_here; with_reducible refine pow_pw ?kb1 ?kb2 ?_; (case kb1 => assumption); (case kb2 => assumption)))
  k_with "binaryOp Mult int int" => ((k_here; with_reducible refine mul_pw ?kb1 ?kb2 ?_; (case kb1 => assumption); (case kb2 => assumption)))
  k_with "binaryOp BitXor int int" => ((k_here; with_reducible refine xor_xr ?_))
  k_with "CompRest" => ((with_unfolding_all first | (refine LCg.CompRest.succ ?_; intro v' I' oI' C' oC' D' m' h' tk' E' hv' hC' hx' F' N' off' ne'; (first | lcg_open hv' | (obtain ⟨t9', hv9'⟩ := hv'; subst hv9')); (obtain ⟨neIC', neID', neCD'⟩ := ne')) | refine LCg.CompRest.zero ?_))
  k_with "lcg_off" => (with_reducible assumption)
  k_with "CompEnd" => (lcg_end)
  k_with "eval Name" => ((k_here; k_dflt (first
  | (refine' nameX_L ?F ?v ?_ ?a ?b; (case F => k_asm); (case a => rfl); (case b => rfl); (case v => rfl); k_whole)
  | (refine' nameX_C ?N ?c ?m ?d ?_ ?a ?b; (case a => rfl); (case b => rfl); (case N => k_asm); (case c => rfl); (case m => k_mem); (case d => k_asm); k_whole)
  | (refine' nameX_K ?F ?X ?T ?e ?_ ?a ?b; (case F => k_asm); (case X => k_asm); (case T => k_asm); (case a => rfl); (case b => rfl); (case e => k_is); k_whole))))
  k_with "eval Name" => ((k_here; (with_reducible show wpAny _ _ (eval (PySem.Expr.Name _ _) (compEnvC _ _ _ _)) _ _ _); k_dflt (first
  | (refine LCgL.ld_own (by k_asm) (by k_mem) (by assumption) (by assumption) ?_)
  | (refine' lcf_cell ?N ?c ?m ?d ?_ ?a ?b; (case a => rfl); (case b => rfl); (case N => k_asm); (case c => rfl); (case m => k_mem); (case d => k_asm); k_whole)
  | (refine' lcf_free ?N ?c ?m ?d ?_ ?a ?b; (case a => rfl); (case b => rfl); (case N => k_asm); (case c => rfl); (case m => k_mem); (case d => k_asm); k_whole)
  | (refine LCgL.ld_global (by k_asm) (by k_asm) (by k_asm) (by k_is) ?_))))
  k_with "FinE" => (((unfold LCg.FinE); intro D' h' tk' F' N' oq9'; (try simp only [List.nil_append, List.cons_append] at N'); (try dsimp only)))
  k_with "FinA" => (((unfold LCg.FinA); intro D' h' tk' F' N' oq9'; (try simp only [List.nil_append, List.cons_append] at N'); (try dsimp only)))
  k_with "k_ne" => (((try dsimp only); first
  | (with_reducible assumption)
  | (with_reducible exact Ne.symm (by assumption))
  | (refine' off1_ne ?nh ?nm; (case nh => with_reducible assumption); (case nm => k_mem))
  | (refine' off1_ne' ?nh ?nm; (case nh => with_reducible assumption); (case nm => k_mem))
  | (refine' off3_I ?nh ?nm; (case nh => with_reducible assumption); (case nm => k_mem))
  | (refine' off3_C ?nh ?nm; (case nh => with_reducible assumption); (case nm => k_mem))
  | (refine' off3_D ?nh ?nm; (case nh => with_reducible assumption); (case nm => k_mem))
  | (refine' off3_I' ?nh ?nm; (case nh => with_reducible assumption); (case nm => k_mem))
  | (refine' off3_C' ?nh ?nm; (case nh => with_reducible assumption); (case nm => k_mem))
  | (refine' off3_D' ?nh ?nm; (case nh => with_reducible assumption); (case nm => k_mem))
  | (refine' two_ne ?nh ?nm; (case nh => with_reducible assumption); (case nm => tb_start))
  | (refine' two_ne' ?nh ?nm; (case nh => with_reducible assumption); (case nm => tb_start))
  | (refine neN ?_; lia)))
  k_with "tb_start" => (first | (refine' Two.head ?th; (case th => k_mem)) | (refine' Two.tail ?tw; (case tw => tb_start)))
  k_with "call builtin:list.append" => ((k_here; (with_reducible show wpAny _ _ (PySem.call (Value.builtin _) [Value.ref _, _]) _ _ _); k_dflt (refine append_lit (by k_asm) (by k_asm) (by kl_lit) (by k_upd) (by kl_room) ?_); kl_rest))
  k_with "subscriptTail" => ((k_here; (with_reducible show wpAny _ _ (subscriptTail _ _ (Value.ref _) (Value.int _ _)) _ _ _); k_dflt (refine item_N (by k_asm) (by k_mem) (by decide) (by decide) rfl ?_ (by with_unfolding_all rfl))))
  k_with "subscriptTail Name Name ref int" => ((walk_at "subscriptTail"))
  k_with "subscriptTail Name Constant ref int" => ((walk_at "subscriptTail"))
  k_with "getItem ref int" => ((k_here; k_dflt (refine getItem_N (by k_asm) (by k_mem) (by decide) (by decide) rfl ?_)))
  k_with "getMethod ref" => ((k_here; (with_reducible show wpAny _ _ (getMethod (Value.ref _) (PySem.Str.ofString "read") _) _ _ _); k_dflt (refine kmu_own (by k_asm) (by k_asm) (by k_inst) (by k_is) (by k_is) ?_)))
  k_with "And" => (((with_reducible show FnAt _ _ ∧ _); refine ⟨FnAt.of (by k_asm) (by k_mem), ?_⟩; (try dsimp only [List.nil_append, List.cons_append])))
  k_with "k_mem" => (first | exact List.Mem.head _ | exact mem1 | exact mem2 | exact mem3 | exact mem4 | exact mem5 | exact mem6 | exact mem7 | (refine' mem8 ?_; k_mem))
  k_with "lcg_sub" => (first | exact sub_nil | (refine sub_cons (by k_mem) ?_; lcg_sub))
  k_with "kpt_turns" => (first | exact Take.head | exact tk1 | exact tk2 | exact tk3 | (refine' tk4 ?tk; (case tk => kpt_turns)))
  k_with "tb_rel" => (first | exact Pick.nil | (refine' Pick.cons ?pt ?pk; (case pt => kpt_turns); (case pk => tb_rel)))
  k_with "ktm_same2" => (first | exact True.intro | (refine off1_cons (by k_ne) ?_; ktm_same2))
  k_with "ktr_rel" => (first | exact True.intro | (refine And.intro (by ktm_same2) ?_; ktr_rel))
  k_with "ktr_room" => (first | decide | ((try simp only [depth_under_make, depth_under_kw, depth_in1, depth_deeper, depth_caller] at *); lia))
  k_with "truthy ref" => ((k_here; (with_reducible show wpAny _ _ (truthy (Value.ref _)) _ _ _); k_dflt (first
  | (refine truthy_cons (by k_asm) (by k_mem) (by with_reducible assumption) ?_)
  | (refine truthy_nil (by k_asm) (by k_mem) ?_))))
  k_with "call builtin:list.pop" => ((k_here; (with_reducible show wpAny _ _ (PySem.call (Value.builtin _) [Value.ref _, Value.int 0 _]) _ _ _); k_dflt (refine pop0_cons (by k_asm) (by k_asm) (by k_upd) (by with_reducible assumption) ?_); kl_rest))
  k_with "execs cons" => ((k_here; k_fold))
  exact True.intro

theorem sub_spec (w : World) (a b : Int) (t u : Tok) : Spec w 119 1 [.int a t, .int b u] [] (fun v news => news = [] ∧ ∃ t', v = .int (a - b) t') := by
  unfold Spec
  w_top off
  k_fill
  intro mean mg mb p loose dp un gd fr base g s R B X T hsz H hdp hu hret
  k_dflt (refine enter (binds := [("a", .int a t), ("b", .int b u)]) (by assumption) (by assumption) (by assumption) (by assumption) (by assumption) (by k_is) (by k_is) (by k_room) (BindsTo.of_eq rfl) (locs rfl) ?_ rfl rfl rfl (by decide))
  intro L' h' F' N' l1
  (have offK' := off1_of (fun r hr => Nat.ne_of_lt (l1 r hr)))
  (try (replace l1 := allLt_of l1; simp only [AllLt, and_true] at l1))
  (try dsimp only [List.length_cons, List.length_nil, List.reverse_cons, List.reverse_nil, List.nil_append, List.cons_append])
  (try k_fold)
  repeat' (first | (k_unfold; (try dsimp only)) | (k_end; wrow_close) | walk1 | (dsimp only; walk1) | (dsimp only; k_unfold; (try dsimp only)) | (leave1; walk_say "STEP leave1"; (try dsimp only)) | fail "no step")
  exact spec_end hret (by assumption) (by assumption) [] ⟨rfl, _, rfl⟩ (fun _ h => nomatch h)
theorem add_spec (w : World) (a b : Int) (t u : Tok) : Spec w 91 1 [.int a t, .int b u] [] (fun v news => news = [] ∧ ∃ t', v = .int (a + b) t') := by
  unfold Spec
  w_top off
  k_fill
  intro mean mg mb p loose dp un gd fr base g s R B X T hsz H hdp hu hret
  k_dflt (refine enter (binds := [("a", .int a t), ("b", .int b u)]) (by assumption) (by assumption) (by assumption) (by assumption) (by assumption) (by k_is) (by k_is) (by k_room) (BindsTo.of_eq rfl) (locs rfl) ?_ rfl rfl rfl (by decide))
  intro L' h' F' N' l1
  (have offK' := off1_of (fun r hr => Nat.ne_of_lt (l1 r hr)))
  (try (replace l1 := allLt_of l1; simp only [AllLt, and_true] at l1))
  (try dsimp only [List.length_cons, List.length_nil, List.reverse_cons, List.reverse_nil, List.nil_append, List.cons_append])
  (try k_fold)
  repeat' (first | (k_unfold; (try dsimp only)) | (k_end; wrow_close) | walk1 | (dsimp only; walk1) | (dsimp only; k_unfold; (try dsimp only)) | (leave1; walk_say "STEP leave1"; (try dsimp only)) | fail "no step")
  exact spec_end hret (by assumption) (by assumption) [] ⟨rfl, _, rfl⟩ (fun _ h => nomatch h)
theorem half_spec (w : World) (a : Int) (t u : Tok) : Spec w 105 1 [.int a t, .int 2 u] [] (fun v news => news = [] ∧ ∃ t', v = .int (a.fdiv 2) t') := by
  unfold Spec
  w_top off
  k_fill
  intro mean mg mb p loose dp un gd fr base g s R B X T hsz H hdp hu hret
  k_dflt (refine enter (binds := [("a", .int a t), ("b", .int 2 u)]) (by assumption) (by assumption) (by assumption) (by assumption) (by assumption) (by k_is) (by k_is) (by k_room) (BindsTo.of_eq rfl) (locs rfl) ?_ rfl rfl rfl (by decide))
  intro L' h' F' N' l1
  (have offK' := off1_of (fun r hr => Nat.ne_of_lt (l1 r hr)))
  (try (replace l1 := allLt_of l1; simp only [AllLt, and_true] at l1))
  (try dsimp only [List.length_cons, List.length_nil, List.reverse_cons, List.reverse_nil, List.nil_append, List.cons_append])
  (try k_fold)
  repeat' (first | (k_unfold; (try dsimp only)) | (k_end; wrow_close) | walk1 | (dsimp only; walk1) | (dsimp only; k_unfold; (try dsimp only)) | (leave1; walk_say "STEP leave1"; (try dsimp only)) | fail "no step")
  exact spec_end hret (by assumption) (by assumption) [] ⟨rfl, _, rfl⟩ (fun _ h => nomatch h)
section
variable {w : World} {mean : ExcName → Option Value} {mg mb : PySem.Str → Option Value} {p : Program} {loose : List PySem.Str} {dp un : Nat} {gd : Option (List Code)} {env : Env} {outer : List Env}
    {A₀ : Around} {base h₀ : Heap} {L : Addr} {m : PySem.Str → Option Value} {news rest : List (Addr × Obj)} {s : Shared} {Q E : Value → Shared → Prop}
/-- a contract used that touches nothing and gives one value -/
theorem use1 {f : Addr} {d : Nat} {vs : List Value} {K : Tok → Value}
    (S : Spec w f d vs [] (fun v nw => nw = [] ∧ ∃ t, v = K t))
    (h : ∀ t h' tk', Fr h₀ L h' m → News h₀ L h' news → Q (K t) { s with heap := h', toks := tk' })
    (B : Below A₀ base outer h₀ := by k_asm) (F : Fr h₀ L s.heap m := by k_asm) (X : (hd.heap_19 w.params).In h₀ := by k_asm) (N : News h₀ L s.heap news := by k_asm) (T : Top p loose mean mg mb h₀ := by k_asm)
    (hf : env.frame = some L := by exact rfl) (hke : env.scope.kind = .function := by exact rfl) (hd : dp + d < recursionLimit := by ktr_room) (hu : un + 8 * d < cLine := by ktr_room) :
    wpAny (model PySem.Challenge.rw_sw0028_01.row.prog w) (aro dp un gd (env :: outer)) (PySem.call (.ref f) vs) Q E s :=
  spec_at S B F X N T hf hke Pick.nil True.intro hd hu fun v nw h' tk' hp F' N' _ => by
    obtain ⟨rfl, t, rfl⟩ := hp
    exact h t h' tk' F' N'
end

end

section
/-- a stop -/
noncomputable def Stop (p : Prop) : Prop := p
theorem Stop.go {p : Prop} (h : Stop p) : p := h
section
variable {prog : Program} {w : World} {A : Around} {h₀ : Heap} {L : Addr} {m : PySem.Str → Option Value} {env : Env} {elt : PySem.Expr} {x : PySem.Str} {scope : Scope} {cl : List (PySem.Str × Addr)} {s : Shared} {S : List (Addr × Obj) → Prop} {P : Nat → Value → Prop} {Fin : List Value → List (Addr × Obj) → Prop} {news : List (Addr × Obj)}
/-- a comprehension whose turns are all alike: one turn is walked for all -/
theorem rest_all {n : Nat} (Y : Nat → Value → Prop) (hS : S news)
    (turn : ∀ (i : Nat) v I oI C oC D m₂ ys h tk (E' Q' : Value → Shared → Prop), i < n → P i v → LCg.NsObj oC m₂ → m₂ x = some v → Fr h₀ L h m → News h₀ L h ((I, oI) :: (C, oC) :: (D, LCg.lst ys) :: news) → LCg.Off3 I C D news → ((@Ne Nat I C) ∧ (@Ne Nat I D) ∧ (@Ne Nat C D)) →
      (∀ y h' tk', Y i y → Fr h₀ L h' m → News h₀ L h' ((I, oI) :: (C, oC) :: (D, LCg.lst ys) :: news) → Q' y { s with heap := h', toks := tk' }) →
      wpAny (model prog w) A (eval elt (compEnvC scope cl C env)) Q' E' { s with heap := h, toks := tk })
    (fin : ∀ ys : List Value, ys.length = n → (∀ i v, ys[i]? = some v → Y i v) → Fin ys news) :
    LCg.CompRest prog w A h₀ L m env elt x scope cl s S P Fin n 0 [] news := by
  have key : ∀ (j i : Nat) (ys : List Value), i + j = n → ys.length = i → (∀ i v, ys[i]? = some v → Y i v) → LCg.CompRest prog w A h₀ L m env elt x scope cl s S P Fin j i ys news := by
    intro j
    induction j with
    | zero =>
      intro i ys hi hl hy
      exact LCg.CompRest.zero (fin ys (by lia) hy)
    | succ j ih =>
      intro i ys hi hl hy
      refine LCg.CompRest.succ fun v I oI C oC D m₂ h tk E' hv hC hx F N off ne => ?_
      refine turn i v I oI C oC D m₂ ys h tk E' _ (by lia) hv hC hx F N off ne fun y h' tk' hY F' N' => ?_
      refine LCg.CompEnd.intro (s₁ := { s with heap := h, toks := tk }) F' N' news (fun _ hp => hp) off hS (ih (i + 1) _ (by lia) (by rw [List.length_append, hl]; rfl) fun k z hz => ?_)
      by_cases hk : k < ys.length
      · rw [List.getElem?_append_left hk] at hz; exact hy k z hz
      · rw [List.getElem?_append_right (Nat.not_lt.mp hk)] at hz
        have hk0 : k - ys.length = 0 := by
          cases e : k - ys.length with
          | zero => rfl
          | succ q => rw [e] at hz; simp at hz
        rw [hk0] at hz
        simp only [List.getElem?_cons_zero, Option.some.injEq] at hz
        subst hz
        have : k = i := by lia
        rw [this]; exact hY
  exact key n 0 [] (by lia) rfl (fun i v h => by simp at h)
end
section
variable {prog : Program} {w : World} {A : Around} {h₀ : Heap} {L : Addr} {m : PySem.Str → Option Value} {env : Env} {elt : PySem.Expr} {x : PySem.Str} {scope : Scope} {cl : List (PySem.Str × Addr)} {s : Shared} {S : List (Addr × Obj) → Prop} {P : Nat → Value → Prop} {Fin : List Value → List (Addr × Obj) → Prop} {news : List (Addr × Obj)}
/-- the same where the ledger is turned from turn to turn -/
theorem rest_inv {n : Nat} (R : Nat → List Value → List (Addr × Obj) → Prop) (h0 : R 0 [] news)
    (turn : ∀ (i : Nat) nw v I oI C oC D m₂ ys h tk (E' Q' : Value → Shared → Prop), i < n → R i ys nw → P i v → LCg.NsObj oC m₂ → m₂ x = some v → Fr h₀ L h m → News h₀ L h ((I, oI) :: (C, oC) :: (D, LCg.lst ys) :: nw) → LCg.Off3 I C D nw → ((@Ne Nat I C) ∧ (@Ne Nat I D) ∧ (@Ne Nat C D)) →
      (∀ y h' tk' nw', R (i + 1) (ys ++ [y]) nw' → S nw' → Fr h₀ L h' m → News h₀ L h' ((I, oI) :: (C, oC) :: (D, LCg.lst ys) :: nw') → LCg.Off3 I C D nw' → Q' y { s with heap := h', toks := tk' }) →
      wpAny (model prog w) A (eval elt (compEnvC scope cl C env)) Q' E' { s with heap := h, toks := tk })
    (fin : ∀ ys nw, R n ys nw → Fin ys nw) :
    LCg.CompRest prog w A h₀ L m env elt x scope cl s S P Fin n 0 [] news := by
  have key : ∀ (j i : Nat) (ys : List Value) (nw : List (Addr × Obj)), i + j = n → R i ys nw → LCg.CompRest prog w A h₀ L m env elt x scope cl s S P Fin j i ys nw := by
    intro j
    induction j with
    | zero =>
      intro i ys nw hi hr
      obtain rfl : i = n := by lia
      exact LCg.CompRest.zero (fin ys nw hr)
    | succ j ih =>
      intro i ys nw hi hr
      refine LCg.CompRest.succ fun v I oI C oC D m₂ h tk E' hv hC hx F N off ne => ?_
      refine turn i nw v I oI C oC D m₂ ys h tk E' _ (by lia) hr hv hC hx F N off ne fun y h' tk' nw' hR hS F' N' off' => ?_
      exact LCg.CompEnd.intro (s₁ := { s with heap := h, toks := tk }) F' N' nw' (fun _ hp => hp) off' hS (ih (i + 1) _ nw' (by lia) hR)
  exact key n 0 [] news (by lia) h0
end

end
/-- a range's iterator: where it stands, how many are left -/
abbrev rngIt (x : Int) (k : Nat) : Obj := { cls := .type "range_iterator", data := .fields #[rawInt x, rawInt (k : Int), rawInt 1] }
section
variable {prog : Program} {w : World} {A : Around} {E : Value → Shared → Prop} {s : Shared} {h₀ : Heap} {L I : Addr} {m : PySem.Str → Option Value} {news news' : List (Addr × Obj)} {env : Env}
theorem rng_iter {r : Addr} {a b : Int} {t u v : Tok} {Q : Value → Shared → Prop} {k : Nat} (F : Fr h₀ L s.heap m := by k_asm) (N : News h₀ L s.heap news := by k_asm) (hr : IsRange s.heap r a b 1 t u v := by assumption) (ha : 0 ≤ a := by lia)
    (hk : b = a + k := by first | exact (show (32:Int) = 1 + ((31:Nat):Int) from rfl) | exact (show (32:Int) = 0 + ((32:Nat):Int) from rfl) | exact (show (4:Int) = 0 + ((4:Nat):Int) from rfl) | exact (Int.zero_add _).symm) (hb : b ≤ 1000 := by lia)
    (h : ∀ I h', Fr h₀ L h' m → News h₀ L h' ((I, rngIt a k) :: news) → LCg.Off1 I news → Q (.ref I) { s with heap := h' }) :
    wpAny (model prog w) A (pyIter (.ref r)) Q E s := by
  have e : Builtin.Range.rangeSize a b 1 = (k : Int) := by rw [rangeSize_one]; split <;> lia
  refine wpAny_pyIter_range hr (small_one (by lia) (by lia) (by lia) (by lia)) ?_
  rw [e]
  exact h _ _ (F.push _) (News.push F N _ rfl) (off1_of fun q hq => Nat.ne_of_lt (Heap.lt_size (N q hq).1))
theorem rng_some {x : Int} {k : Nat} {Q : Option Value → Shared → Prop} (F : Fr h₀ L s.heap m := by k_asm) (N : News h₀ L s.heap news := by k_asm) (U : Upd I (rngIt x (k + 1)) (rngIt (x + 1) k) news news' := by k_upd)
    (h : ∀ h', Fr h₀ L h' m → News h₀ L h' news' → Q (some (.int x s.toks)) { s with heap := h', toks := s.toks + 1 }) : wpAny (model prog w) A (pyNext (.ref I)) Q E s := by
  have z := N _ (upd_mem U)
  refine wpAny_pyNext_range_item (x := x) (left := ((k + 1 : Nat) : Int)) (step := 1) z.1 (by lia) fun h' g hs => ?_
  rw [show (((k + 1 : Nat) : Int) - 1) = (k : Int) by lia] at g
  exact h h' (F.change hs z.2.1 z.2.2) (news_upd U N hs g)
theorem fr_ext {h h' : Heap} (F : Fr h₀ L h m) (hI : I ≠ L) (h0 : h₀.get? I = none) (hs : Heap.ExtBut I h h') : Fr h₀ L h' m := by
  obtain ⟨oL, es, ep, hL, r⟩ := F.ns
  refine ⟨⟨oL, es, ep, hs L _ (fun e => hI e.symm) hL, r⟩, fun b o e => hs b _ (fun e' => ?_) (F.keep b o e), F.above⟩
  subst e'
  rw [h0] at e; cases e
theorem rng_none {x : Int} {rest : List (Addr × Obj)} {Q : Option Value → Shared → Prop} (hh : A.handled = none := by rfl) (F : Fr h₀ L s.heap m := by k_asm) (N : News h₀ L s.heap news := by k_asm) (T : Take (I, rngIt x 0) news rest := by kpt_turns) (off : LCg.Off1 I rest := by ktm_same2)
    (h : ∀ h', Fr h₀ L h' m → News h₀ L h' rest → Q none { s with heap := h' }) : wpAny (model prog w) A (pyNext (.ref I)) Q E s := by
  have z := N _ T.mem.1
  refine wpAny_pyNext_range_end (x := x) (left := ((0 : Nat) : Int)) (step := 1) hh z.1 (by lia) fun h' hs => ?_
  exact h h' (fr_ext F z.2.1 z.2.2 hs) fun q hq => ⟨hs q.1 _ (off1_ne (o := q.2) off hq) (N q (T.mem.2 q hq)).1, (N q (T.mem.2 q hq)).2⟩
/-- a while loop, turn by turn -/
theorem While_turns {Q : Flow → Shared → Prop} {test : PySem.Expr} {body : List Stmt} {pos : Pos}
    (h : Turns fun I n => I n s ∧ ∀ k s₃, I k s₃ → wpAny (model prog w) A (isTrue test env (eval test env)) (fun b s₄ =>
        if b = true then wpAny (model prog w) A (execs body env) (fun fl s₆ => match fl with
          | .next | .cont => Again I k s₆
          | .brk => Q .next s₆
          | .ret v => Q (.ret v) s₆) E s₄
        else Q .next s₄) E s₃)
    (hE : PassesOwn (model prog w) A env E := by passes_own) :
    wpAny (model prog w) A (exec (.While test body [] pos) env) Q E s := by
  obtain ⟨I, n, h0, step⟩ := h
  refine wpAny_While (codeAny_whileLoop I (fun k s₃ hk => ?_) n h0)
  refine wpAny_passesOwn hE (wpAny_mono (step k s₃ hk) (fun b s₄ h₄ => ?_) fun _ _ e => e)
  cases b with
  | false => exact wpAny_execs_nil h₄
  | true =>
    refine wpAny_passesOwn hE (wpAny_mono h₄ (fun fl s₆ h₆ => ?_) fun _ _ e => e)
    cases fl <;> exact h₆
/-- a great letter's place, or a small one's -/
noncomputable def lettr (n : Int) : Int := if n = 1 then 65 else 97
theorem lettr_lo (n : Int) : 65 ≤ lettr n := by unfold lettr; split <;> decide
theorem lettr_hi (n : Int) : lettr n ≤ 97 := by unfold lettr; split <;> decide
theorem ifexp_one {l : PySem.Expr} {k1 k2 k3 : Nat} {p1 p2 p3 p4 p5 : Pos} {Q : Value → Shared → Prop}
    (h : wpAny (model prog w) A (eval l env) (fun v s₁ => match v with | .int n _ => Q (.int (lettr n) (s₁.toks + 1)) { s₁ with toks := s₁.toks + 1 + 1 } | _ => False) E s) :
    wpAny (model prog w) A (eval (.IfExp (.Compare l [.Eq] [.Constant (.int 1) k1 p1] p2) (.Constant (.int 65) k2 p3) (.Constant (.int 97) k3 p4) p5) env) Q E s := by
  refine IfExp_ (wpAny_isTrue_Compare1 (wpAny_mono h (fun v s₁ h₁ => ?_) fun _ _ e => e) rfl)
  match v, h₁ with
  | .int n t, h₁ =>
    refine wpAny_Constant_int ?_
    refine eq_int (wpAny_truthy_bool ?_)
    dsimp only at h₁
    by_cases e : n = 1
    · rw [show (n == 1) = true from beq_iff_eq.mpr e]
      rw [show lettr n = 65 from if_pos e] at h₁
      exact wpAny_Constant_int h₁
    · rw [show (n == 1) = false from beq_eq_false_iff_ne.mpr e]
      rw [show lettr n = 97 from if_neg e] at h₁
      exact wpAny_Constant_int h₁
/-- the strange sign -/
noncomputable def strange (i : Int) : Nat := [32, 34, 92, 10, 9, 35][i.toNat]?.getD 0
theorem strange_item {i : Int} {t u : Tok} {value slice : PySem.Expr} {Q : Value → Shared → Prop} (h0 : 0 ≤ i) (h1 : i < 6)
    (h : Q (.str ⟨[strange i].toArray⟩ s.toks) { s with toks := s.toks + 1 })
    (hs : subscripted slice false (.str (PySem.Str.ofString " \"\\\n\t#") t) (.int i u) = operate [.str (PySem.Str.ofString " \"\\\n\t#") t, .int i u] (getItem (.str (PySem.Str.ofString " \"\\\n\t#") t) (.int i u)) := by with_unfolding_all rfl)
    (ht : ∀ r, letTemporaryGo value (.str (PySem.Str.ofString " \"\\\n\t#") t) r = pure () := by intro _; with_unfolding_all rfl) :
    wpAny (model prog w) A (subscriptTail value slice (.str (PySem.Str.ofString " \"\\\n\t#") t) (.int i u)) Q E s := by
  have hl : (PySem.Str.ofString " \"\\\n\t#").length = 6 := by decide
  refine item_str (fitsSsize_of (N := 9223372036854775808) (by lia) (by lia) (Int.le_refl _)) (by rw [hl]; lia) (by rw [hl]; lia) (fun _ => ?_) hs ht
  have e : Txt.item (PySem.Str.ofString " \"\\\n\t#") i = ⟨[strange i].toArray⟩ := by
    have := lt6i (by assumption : 0 ≤ i) (by assumption : i < 6)
    rcases this with rfl | rfl | rfl | rfl | rfl | rfl <;> decide +kernel
  rw [e]; exact h
end
/-- a text of these signs -/
noncomputable def tx (cs : List Nat) : PySem.Str := ⟨cs.toArray⟩
theorem tx_append (a b : List Nat) : tx a ++ tx b = tx (a ++ b) := by
  show PySem.Str.append _ _ = _
  unfold PySem.Str.append tx
  simp
theorem tx_length (a : List Nat) : PySem.Str.length (tx a) = a.length := by simp [tx, PySem.Str.length]
theorem tx_inj {a b : List Nat} : tx a = tx b ↔ a = b := by
  constructor
  · intro h
    have : a.toArray = b.toArray := congrArg PySem.Str.cps h
    simpa using congrArg Array.toList this
  · rintro rfl; rfl
theorem join_tx : ∀ ls : List (List Nat), Txt.join (PySem.Str.ofString "") (ls.map tx) = tx ls.flatten := by
  intro ls
  show (Builtin.Str.glued (PySem.Str.ofString "") (ls.map tx)) = _
  rw [StrLaws.glued_eq_join]
  induction ls with
  | nil => rfl
  | cons a r ih =>
    cases r with
    | nil => simp [PySem.Str.join]
    | cons b r =>
      show tx a ++ PySem.Str.ofString "" ++ PySem.Str.join (PySem.Str.ofString "") ((b :: r).map tx) = _
      rw [ih, show PySem.Str.ofString "" = tx [] from by decide, tx_append, tx_append, List.append_nil]
      rfl
theorem strs_insert {vs : List Value} {ws : List PySem.Str} {c : PySem.Str} {t : Tok} (h : StrsAre vs ws) : ∀ k : Nat, StrsAre (vs.take k ++ .str c t :: vs.drop k) (ws.take k ++ c :: ws.drop k) := by
  induction h with
  | nil => intro k; simp only [List.take_nil, List.drop_nil]; exact .cons _ _ .nil
  | cons y u h' ih =>
    intro k
    cases k with
    | zero => exact .cons _ _ (.cons _ _ h')
    | succ k => exact .cons _ _ (ih k)
theorem strs_sum (ls : List (List Nat)) : ((ls.map tx).map (·.length)).sum = ls.flatten.length := by
  induction ls with
  | nil => rfl
  | cons a r ih => rw [List.map_cons, List.map_cons, List.sum_cons, ih, tx_length, List.flatten_cons, List.length_append]
section
variable {prog : Program} {w : World} {A : Around} {E : Value → Shared → Prop} {s : Shared} {h₀ : Heap} {L D : Addr} {m : PySem.Str → Option Value} {news : List (Addr × Obj)} {env : Env} {g : Obj → List (Addr × Obj)}
theorem insert_sym {vs : List Value} {n : Nat} {i : Int} {u : Tok} {y : Value} {Q : Value → Shared → Prop} (F : Fr h₀ L s.heap m) (N : News h₀ L s.heap news) (U : UpdF D (listOf vs.toArray n) news g)
    (h0 : 0 ≤ i) (hi : i ≤ vs.length) (hz : vs.length ≤ 1000)
    (h : ∀ h', Fr h₀ L h' m → News h₀ L h' (g (listOf (vs.take i.toNat ++ y :: vs.drop i.toNat).toArray (n + 1))) → Q .none { s with heap := h' }) :
    wpAny (model prog w) A (PySem.call (.builtin "list.insert") [.ref D, .int i u, y]) Q E s := by
  obtain ⟨pre, post, rfl, eg, a, b⟩ := U.split
  have z := N (D, listOf vs.toArray n) (List.mem_append.mpr (.inr (.head _)))
  refine call_meets PySem.F.slot_list_insert ⟨_, z.1, rfl⟩ PySem.F.entry_list_insert (PySem.F.args_list_insert_3 _ _ _) (AutoSeq1.list_insert_list_int_val_1 D _ n i u y ?_ ?_) ⟨z.1, h _ (F.change (Heap.SameBut.update ..) z.2.1 z.2.2) ?_⟩
  · unfold Builtin.List.listFitsIndex
    simp only [Bool.not_eq_true, Bool.not_eq_false', Bool.and_eq_true, decide_eq_true_eq]
    constructor <;> lia
  · rw [sizeLine_eq, List.size_toArray]; lia
  · rw [eg]
    refine kl_turn _ N a b ?_ ?_
    · have e : ¬ i < 0 := by lia
      have e2 : min i.toNat vs.toArray.size = i.toNat := by rw [List.size_toArray]; lia
      simp only [if_neg e, e2]
      apply Array.toList_inj.mp
      simp
      exact List.take_of_length_le (by rw [List.length_drop]; exact Nat.le_refl _)
    · simp only [List.size_toArray, List.length_append, List.length_cons, List.length_take, List.length_drop]
      lia
theorem join_strs {vs : List Value} {ls : List (List Nat)} {n : Nat} {t : Tok} {Q : Value → Shared → Prop} (N : News h₀ L s.heap news) (hm : (D, listOf vs.toArray n) ∈ news) (hs : StrsAre vs (ls.map tx)) (hz : ls.flatten.length ≤ 1000)
    (h : ∀ t' k, Q (.str (tx ls.flatten) t') { s with toks := k }) : wpAny (model prog w) A (PySem.call (.builtin "str.join") [.str (PySem.Str.ofString "") t, .ref D]) Q E s := by
  refine join_list (items := vs.toArray) (ys := ls.map tx) ⟨_, (N _ hm).1, rfl, _, rfl⟩ hs ?_ (by rw [join_tx]; exact h)
  rw [strs_sum, show (PySem.Str.ofString "").length = 0 from by decide]
  lia
theorem chr_tx {i : Int} {t : Tok} {Q : Value → Shared → Prop} (h0 : 0 ≤ i) (h1 : i ≤ 1114111) (h : Q (.str (tx [i.toNat]) s.toks) { s with toks := s.toks + 1 }) :
    wpAny (model prog w) A (PySem.call (.builtin "chr") [.int i t]) Q E s := chr_of_range h0 h1 h
end
section
variable {prog : Program} {w : World} {A : Around} {E : Value → Shared → Prop} {s : Shared} {h₀ : Heap} {L D : Addr} {m : PySem.Str → Option Value} {news : List (Addr × Obj)} {env : Env}
/-- a comprehension's source: a text -/
noncomputable def SrcS (prog : Program) (w : World) (A : Around) (h₀ : Heap) (L : Addr) (m : PySem.Str → Option Value) (env : Env) (elt : PySem.Expr) (x : PySem.Str) (scope : Scope) (cl : List (PySem.Str × Addr)) (Fin : Shared → List Value → List (Addr × Obj) → Prop) (xv : Value) (s₁ : Shared) : Prop :=
  ∃ cs t news, xv = .str (tx cs) t ∧ A.handled = none ∧ Fr h₀ L s₁.heap m ∧ News h₀ L s₁.heap news ∧ cs.length ≤ 1000 ∧
    ∀ s₂ : Shared, (∃ h, s₂ = { s₁ with heap := h }) → LCg.CompRest prog w A h₀ L m env elt x scope cl s₂ (fun _ => True) (fun i v => ∃ t, v = .str (tx [cs[i]?.getD 0]) t) (Fin s₂) cs.length 0 [] news
theorem SrcS.mk {elt : PySem.Expr} {x : PySem.Str} {scope : Scope} {cl : List (PySem.Str × Addr)} {Fin : Shared → List Value → List (Addr × Obj) → Prop} {cs : List Nat} {t : Tok} {s₁ : Shared}
    (hh : A.handled = none) (F : Fr h₀ L s₁.heap m) (N : News h₀ L s₁.heap news) (hsz : cs.length ≤ 1000)
    (h : ∀ g, LCg.CompRest prog w A h₀ L m env elt x scope cl { s₁ with heap := g } (fun _ => True) (fun i v => ∃ t, v = .str (tx [cs[i]?.getD 0]) t) (Fin { s₁ with heap := g }) cs.length 0 [] news) :
    SrcS prog w A h₀ L m env elt x scope cl Fin (.str (tx cs) t) s₁ := ⟨cs, t, news, rfl, hh, F, N, hsz, fun _ ⟨g, e⟩ => e ▸ h g⟩
theorem walks_tx {I : Addr} {cs : List Nat} {St : Nat → Heap → Prop} (W : Walks prog w A I [I] [I] (tx cs).cps.size (SignAt (tx cs)) St) : Walks prog w A I [I] [I] cs.length (fun i v => ∃ t, v = .str (tx [cs[i]?.getD 0]) t) St := by
  have e : (tx cs).cps.size = cs.length := by simp [tx]
  rw [e] at W
  exact { sub := W.sub, frame := W.frame, done := W.done, self := W.self, item := fun i s Q E hi st hQ => W.item i s Q E hi st fun v h' tk hP => hQ v h' tk (by
    obtain ⟨c, u, hc, rfl⟩ := hP
    have : cs[i]? = some c := by simpa [tx] using hc
    exact ⟨u, by rw [this]; rfl⟩) }
theorem ListComp_S {elt iter : PySem.Expr} {x : PySem.Str} {px : Pos} {scope : Scope} {cl : List (PySem.Str × Addr)} {pos : Pos} {Q : Value → Shared → Prop} (F₀ : Fr h₀ L s.heap m)
    (hclos : closureFor scope env = pure cl) (hcell : ∀ y ∈ scope.names, y.2 ≠ .cell) (hkind : scope.kind = .function)
    (hnames : ∀ y ∈ scope.names, y.2 = .local → scope.names.lookup y.1 = some .local) (hx : scope.names.lookup x = some .local)
    (h : wpAny (model prog w) A (eval iter env) (SrcS prog w A h₀ L m env elt x scope cl (fun s₂ => LCg.FinE h₀ L m s₂ Q)) E s)
    (hs : ∀ x, foldedSetIterable iter env x = pure x := by intro _; rfl) :
    wpAny (model prog w) A (eval (.ListComp elt [⟨.Name x px, iter, [], 0⟩] scope pos) env) Q E s := by
  rw [eval_ListComp]
  refine wpAny_comprehension_free (use := none) rfl hs hclos hkind hnames (wpAny_mono h (fun xv s₁ h₁ => ?_) fun _ _ e => e)
  obtain ⟨cs, t, news, rfl, hh, F, N, hsz, R⟩ := h₁
  refine wpAny_pyIter_strU ?_
  have hz : cs.length ≤ sizeLine := by rw [sizeLine_eq]; lia
  obtain ⟨ty, hty, W0⟩ : ∃ ty, strIterType (tx cs) = ty ∧ Walks prog w A s₁.heap.objs.size [s₁.heap.objs.size] [s₁.heap.objs.size] (tx cs).cps.size (SignAt (tx cs)) (fun i h => h.IsStrIter s₁.heap.objs.size ty (tx cs) t i) := by
    by_cases ha : (tx cs).cps.all (· < 128) = true
    · exact ⟨_, by unfold strIterType; rw [if_pos ha], Walks.strAscii hh _ _ _⟩
    · exact ⟨_, by unfold strIterType; rw [if_neg ha], Walks.strWide hh _ _ _⟩
  rw [hty] at *
  refine LCg.block_U (walks_tx W0) hz (fun i h st => by obtain ⟨o, e, _⟩ := st; exact ⟨o, e⟩)
      (fun i h h' o nw st e e' _ _ _ => by obtain ⟨o', q, r⟩ := st; rw [e] at q; cases q; exact ⟨o, e', r⟩) hcell hkind hx
      ⟨_, Heap.get?_push_size _ rfl, rfl, rfl⟩
      (fun b hb => by rw [List.mem_singleton.mp hb]; show s₁.heap.objs.size < (s₁.heap.push _).objs.size; rw [Heap.size_push]; exact Nat.lt_succ_self _)
      (F.keeps fun _ _ e => Heap.get?_push_of_some _ e) (N.grown fun _ _ e => Heap.get?_push_of_some _ e) (Nat.ne_of_lt F.ns.lt) (next_is_new F) (fun p hp => Nat.ne_of_lt (Heap.lt_size (N p hp).1)) trivial (R _ ⟨_, rfl⟩) ?_
  intro D C h tk m' ys news' F' N' o1 hn hC₀ hD₀ hCL hDL hCD offC fin
  refine ⟨m', hn, fun h'' hs'' => fin D h'' tk (F'.change hs'' hCL hC₀) (fun p hp => ?_) o1⟩
  refine ⟨hs''.extBut _ _ ?_ (N' p hp).1, (N' p hp).2⟩
  rcases List.mem_cons.mp hp with rfl | hp
  · exact Ne.symm hCD
  · exact offC p hp
/-- a sign, with a backslash ahead of it where it is a quotation mark or a backslash -/
noncomputable def esc (c : Nat) : List Nat := if c = 34 ∨ c = 92 then [92, c] else [c]
theorem ifexp_esc {c : Nat} {t : Tok} {y : PySem.Str} {k1 k2 : Nat} {p1 p2 p3 p4 p5 p6 p7 p8 : Pos} {Q : Value → Shared → Prop}
    (hn : ∀ (k : Nat) (p : Pos) (Q' : Value → Shared → Prop), Q' (.str (tx [c]) t) { s with toks := k } → wpAny (model prog w) A (eval (.Name y p) env) Q' E { s with toks := k })
    (h : ∀ t' k, Q (.str (tx (esc c)) t') { s with toks := k }) :
    wpAny (model prog w) A (eval (.IfExp (.Compare (.Name y p1) [.In] [.Constant (.str (PySem.Str.ofString "\"\\")) k1 p2] p3) (.BinOp (.Constant (.str (PySem.Str.ofString "\\")) k2 p4) .Add (.Name y p5) p6) (.Name y p7) p8) env) Q E s := by
  refine IfExp_ (wpAny_isTrue_Compare1 ?_ rfl)
  refine hn s.toks _ _ ?_
  refine wpAny_Constant_str ?_
  refine in_str (wpAny_truthy_bool ?_)
  rw [show tx [c] = ⟨#[c]⟩ from rfl, StrLaws.found_one, show (PySem.Str.ofString "\"\\").cps.toList = [34, 92] from by decide]
  by_cases e : c = 34 ∨ c = 92
  · rw [decide_eq_true (show c ∈ [34, 92] by simpa using e), if_pos rfl]
    refine wpAny_BinOp (wpAny_Constant_str ?_)
    refine hn (s.toks + 1 + 1) _ _ ?_
    refine PyProof.Rows.add_str ?_ ?_
    · intro t' k
      have z := h t' k
      rw [show esc c = [92] ++ [c] from if_pos e, ← tx_append] at z
      exact z
    · rw [tx_length, show (PySem.Str.ofString "\\").length = 1 from by decide, sizeLine_eq]; exact Nat.le_of_ble_eq_true rfl
  · rw [decide_eq_false (show c ∉ [34, 92] by simpa using e), if_neg Bool.false_ne_true]
    refine hn (s.toks + 1) _ _ ?_
    have z := h t (s.toks + 1)
    rw [show esc c = [c] from if_neg e] at z
    exact z
theorem add_tx {a b : List Nat} {t u : Tok} {Q : Value → Shared → Prop} (hz : a.length + b.length ≤ 1000) (h : ∀ t' k, Q (.str (tx (a ++ b)) t') { s with toks := k }) :
    wpAny (model prog w) A (binaryOp .Add (.str (tx a) t) (.str (tx b) u)) Q E s :=
  PyProof.Rows.add_str (fun t' k => by rw [tx_append]; exact h t' k) (by rw [tx_length, tx_length, sizeLine_eq]; lia)
end


section
theorem words_written : True := by
  k_with_none
  k_with "k_room" => (first | decide | ((try simp only [depth_under_make, depth_under_kw, depth_in1, depth_deeper, depth_caller]); lia))
  k_with "eval ListComp" => ((k_here; k_dflt (refine LCg.ListComp_U (F₀ := by k_asm) (by with_unfolding_all rfl) (by decide) (by rfl) (by decide) (by rfl) ?_); k_dflt lcg_toSrc))
  k_with "exec Assign cons ListComp" => ((k_here; k_dflt (refine LCg.Assign_ListComp_U (F₀ := by k_asm) (by rfl) (by with_unfolding_all rfl) (by with_unfolding_all rfl) (by decide) (by rfl) (by decide) (by rfl) (by rfl) (by rfl) ?_); k_dflt lcg_toSrc))
  k_with "CompSrc" => ((k_here; k_dflt (first | (refine LCg.CompSrc.ledger (by rfl) (by k_asm) (by k_asm) (by k_mem) (by first | exact Nat.le_of_ble_eq_true rfl | size_fits) ?_; intro g'; lcg_lit) | (refine LCg.CompSrc.range (by rfl) (by k_asm) (by k_asm) (by assumption) (by first | decide | rfl) (by first | rfl | decide) (by first | exact Nat.le_of_ble_eq_true rfl | size_fits) ?_; intro g'; lcg_lit))))
  k_with "binaryOp Pow int int" => ((k_here; with_reducible refine pow_pw ?kb1 ?kb2 ?_; (case kb1 => assumption); (case kb2 => assumption)))
  k_with "binaryOp Mult int int" => ((k_here; with_reducible refine mul_pw ?kb1 ?kb2 ?_; (case kb1 => assumption); (case kb2 => assumption)))
  k_with "binaryOp BitXor int int" => ((k_here; with_reducible refine xor_xr ?_))
  k_with "CompRest" => ((with_unfolding_all first | (refine LCg.CompRest.succ ?_; intro v' I' oI' C' oC' D' m' h' tk' E' hv' hC' hx' F' N' off' ne'; (first | lcg_open hv' | (obtain ⟨t9', hv9'⟩ := hv'; subst hv9')); (obtain ⟨neIC', neID', neCD'⟩ := ne')) | refine LCg.CompRest.zero ?_))
  k_with "lcg_off" => (with_reducible assumption)
  k_with "CompEnd" => (lcg_end)
  k_with "eval Name" => ((k_here; k_dflt (first
  | (refine' nameX_L ?F ?v ?_ ?a ?b; (case F => k_asm); (case a => rfl); (case b => rfl); (case v => rfl); k_whole)
  | (refine' nameX_C ?N ?c ?m ?d ?_ ?a ?b; (case a => rfl); (case b => rfl); (case N => k_asm); (case c => rfl); (case m => k_mem); (case d => k_asm); k_whole)
  | (refine' nameX_K ?F ?X ?T ?e ?_ ?a ?b; (case F => k_asm); (case X => k_asm); (case T => k_asm); (case a => rfl); (case b => rfl); (case e => k_is); k_whole))))
  k_with "eval Name" => ((k_here; (with_reducible show wpAny _ _ (eval (PySem.Expr.Name _ _) (compEnvC _ _ _ _)) _ _ _); k_dflt (first
  | (refine LCgL.ld_own (by k_asm) (by k_mem) (by assumption) (by assumption) ?_)
  | (refine' lcf_cell ?N ?c ?m ?d ?_ ?a ?b; (case a => rfl); (case b => rfl); (case N => k_asm); (case c => rfl); (case m => k_mem); (case d => k_asm); k_whole)
  | (refine' lcf_free ?N ?c ?m ?d ?_ ?a ?b; (case a => rfl); (case b => rfl); (case N => k_asm); (case c => rfl); (case m => k_mem); (case d => k_asm); k_whole)
  | (refine LCgL.ld_global (by k_asm) (by k_asm) (by k_asm) (by k_is) ?_))))
  k_with "FinE" => (((unfold LCg.FinE); intro D' h' tk' F' N' oq9'; (try simp only [List.nil_append, List.cons_append] at N'); (try dsimp only)))
  k_with "FinA" => (((unfold LCg.FinA); intro D' h' tk' F' N' oq9'; (try simp only [List.nil_append, List.cons_append] at N'); (try dsimp only)))
  k_with "k_ne" => (((try dsimp only); first
  | (with_reducible assumption)
  | (with_reducible exact Ne.symm (by assumption))
  | (refine' off1_ne ?nh ?nm; (case nh => with_reducible assumption); (case nm => k_mem))
  | (refine' off1_ne' ?nh ?nm; (case nh => with_reducible assumption); (case nm => k_mem))
  | (refine' off3_I ?nh ?nm; (case nh => with_reducible assumption); (case nm => k_mem))
  | (refine' off3_C ?nh ?nm; (case nh => with_reducible assumption); (case nm => k_mem))
  | (refine' off3_D ?nh ?nm; (case nh => with_reducible assumption); (case nm => k_mem))
  | (refine' off3_I' ?nh ?nm; (case nh => with_reducible assumption); (case nm => k_mem))
  | (refine' off3_C' ?nh ?nm; (case nh => with_reducible assumption); (case nm => k_mem))
  | (refine' off3_D' ?nh ?nm; (case nh => with_reducible assumption); (case nm => k_mem))
  | (refine' two_ne ?nh ?nm; (case nh => with_reducible assumption); (case nm => tb_start))
  | (refine' two_ne' ?nh ?nm; (case nh => with_reducible assumption); (case nm => tb_start))
  | (refine neN ?_; lia)))
  k_with "tb_start" => (first | (refine' Two.head ?th; (case th => k_mem)) | (refine' Two.tail ?tw; (case tw => tb_start)))
  k_with "call builtin:list.append" => ((k_here; (with_reducible show wpAny _ _ (PySem.call (Value.builtin _) [Value.ref _, _]) _ _ _); k_dflt (refine append_lit (by k_asm) (by k_asm) (by kl_lit) (by k_upd) (by kl_room) ?_); kl_rest))
  k_with "subscriptTail" => ((k_here; (with_reducible show wpAny _ _ (subscriptTail _ _ (Value.ref _) (Value.int _ _)) _ _ _); k_dflt (refine item_N (by k_asm) (by k_mem) (by decide) (by decide) rfl ?_ (by with_unfolding_all rfl))))
  k_with "subscriptTail Name Name ref int" => ((walk_at "subscriptTail"))
  k_with "subscriptTail Name Constant ref int" => ((walk_at "subscriptTail"))
  k_with "getItem ref int" => ((k_here; k_dflt (refine getItem_N (by k_asm) (by k_mem) (by decide) (by decide) rfl ?_)))
  k_with "getMethod ref" => ((k_here; (with_reducible show wpAny _ _ (getMethod (Value.ref _) (PySem.Str.ofString "read") _) _ _ _); k_dflt (refine kmu_own (by k_asm) (by k_asm) (by k_inst) (by k_is) (by k_is) ?_)))
  k_with "And" => (((with_reducible show FnAt _ _ ∧ _); refine ⟨FnAt.of (by k_asm) (by k_mem), ?_⟩; (try dsimp only [List.nil_append, List.cons_append])))
  k_with "k_mem" => (first | exact List.Mem.head _ | exact mem1 | exact mem2 | exact mem3 | exact mem4 | exact mem5 | exact mem6 | exact mem7 | (refine' mem8 ?_; k_mem))
  k_with "lcg_sub" => (first | exact sub_nil | (refine sub_cons (by k_mem) ?_; lcg_sub))
  k_with "kpt_turns" => (first | exact Take.head | exact tk1 | exact tk2 | exact tk3 | (refine' tk4 ?tk; (case tk => kpt_turns)))
  k_with "tb_rel" => (first | exact Pick.nil | (refine' Pick.cons ?pt ?pk; (case pt => kpt_turns); (case pk => tb_rel)))
  k_with "ktm_same2" => (first | exact True.intro | (refine off1_cons (by k_ne) ?_; ktm_same2))
  k_with "ktr_rel" => (first | exact True.intro | (refine And.intro (by ktm_same2) ?_; ktr_rel))
  k_with "ktr_room" => (first | decide | ((try simp only [depth_under_make, depth_under_kw, depth_in1, depth_deeper, depth_caller] at *); lia))
  k_with "truthy ref" => ((k_here; (with_reducible show wpAny _ _ (truthy (Value.ref _)) _ _ _); k_dflt (first
  | (refine truthy_cons (by k_asm) (by k_mem) (by with_reducible assumption) ?_)
  | (refine truthy_nil (by k_asm) (by k_mem) ?_))))
  k_with "call builtin:list.pop" => ((k_here; (with_reducible show wpAny _ _ (PySem.call (Value.builtin _) [Value.ref _, Value.int 0 _]) _ _ _); k_dflt (refine pop0_cons (by k_asm) (by k_asm) (by k_upd) (by with_reducible assumption) ?_); kl_rest))
  k_with "execs cons" => ((k_here; k_fold))
  exact True.intro

noncomputable def bs (c : Nat) : List Nat := [92, c]
noncomputable def wrt (cs : List Nat) (way : Int) : List Nat := if way.fmod 3 = 0 then [34] ++ (cs.map esc).flatten ++ [34] else (cs.map bs).flatten ++ [if way.fmod 3 = 1 then 9 else 10]
theorem esc_len (c : Nat) : (esc c).length ≤ 2 := by unfold esc; split <;> exact Nat.le_of_ble_eq_true rfl
theorem flat_len {f : Nat → List Nat} (hf : ∀ c, (f c).length ≤ 2) : ∀ cs : List Nat, (cs.map f).flatten.length ≤ 2 * cs.length
  | [] => Nat.le_refl 0
  | c :: cs => by
    rw [List.map_cons, List.flatten_cons, List.length_append, List.length_cons]
    have := flat_len hf cs
    have := hf c
    lia
theorem strs_by {f : Nat → List Nat} : ∀ {cs : List Nat} {ys : List Value}, ys.length = cs.length → (∀ (i : Nat) v, ys[i]? = some v → ∃ t, v = Value.str (tx (f (cs[i]?.getD 0))) t) → StrsAre ys ((cs.map f).map tx)
  | [], [], _, _ => .nil
  | c :: cs, y :: ys, hl, hy => by
    obtain ⟨t, rfl⟩ := hy 0 y rfl
    exact .cons _ _ (strs_by (Nat.succ.inj hl) fun i v h => hy (i + 1) v h)
theorem sub_tn {prog : Program} {w : World} {A : Around} {E : Value → Shared → Prop} {s : Shared} {n : Int} {t u : Tok} {value slice : PySem.Expr} {Q : Value → Shared → Prop} (h0 : 0 ≤ n) (h3 : n < 3) (hz : n ≠ 0)
    (h : Q (.str (tx [if n = 1 then 9 else 10]) s.toks) { s with toks := s.toks + 1 })
    (hs : subscripted slice false (.str (PySem.Str.ofString "\t\n") t) (.int (n - 1) u) = operate [.str (PySem.Str.ofString "\t\n") t, .int (n - 1) u] (getItem (.str (PySem.Str.ofString "\t\n") t) (.int (n - 1) u)) := by with_unfolding_all rfl)
    (ht : ∀ r, letTemporaryGo value (.str (PySem.Str.ofString "\t\n") t) r = pure () := by intro _; with_unfolding_all rfl) :
    wpAny (model prog w) A (subscriptTail value slice (.str (PySem.Str.ofString "\t\n") t) (.int (n - 1) u)) Q E s := by
  have hl : (PySem.Str.ofString "\t\n").length = 2 := by decide
  refine item_str (fitsSsize_of (N := 9223372036854775808) (by lia) (by lia) (Int.le_refl _)) (by rw [hl]; lia) (by rw [hl]; lia) (fun _ => ?_) hs ht
  have e : Txt.item (PySem.Str.ofString "\t\n") (n - 1) = tx [if n = 1 then 9 else 10] := by
    have : n = 1 ∨ n = 2 := by lia
    rcases this with rfl | rfl <;> decide +kernel
  rw [e]; exact h
theorem words1_written : True := by
  k_with "eval ListComp" => ((k_here; k_dflt (refine ListComp_S (F₀ := by k_asm) (by with_unfolding_all rfl) (by decide) (by rfl) (by decide) (by rfl) ?_)))
  k_with "SrcS" => ((k_here; k_dflt (refine SrcS.mk (by rfl) (by k_asm) (by k_asm) (by lia) ?_; intro g')))
  k_with "eval IfExp Compare BinOp Name" => ((k_here; (refine ifexp_esc (by intro k' p' Q' hq'; walk1; exact hq') ?_); intro _ _))
  exact True.intro

section
variable {prog : Program} {w : World} {A : Around} {E : Value → Shared → Prop} {s : Shared} {a b : List Nat} {t u : Tok} {Q : Value → Shared → Prop}
theorem add_bs {c : Nat} (h : ∀ t' k, Q (.str (tx (bs c)) t') { s with toks := k }) : wpAny (model prog w) A (binaryOp .Add (.str (PySem.Str.ofString "\\") t) (.str (tx [c]) u)) Q E s :=
  add_tx (a := [92]) (b := [c]) (by show 1 + 1 ≤ 1000; decide) h
theorem add_q (hz : b.length ≤ 900) (h : ∀ t' k, Q (.str (tx ([34] ++ b)) t') { s with toks := k }) : wpAny (model prog w) A (binaryOp .Add (.str (PySem.Str.ofString "\"") t) (.str (tx b) u)) Q E s :=
  add_tx (a := [34]) (b := b) (by show 1 + b.length ≤ 1000; lia) h
theorem add_tq (hz : b.length ≤ 900) (h : ∀ t' k, Q (.str (tx ([34] ++ b ++ [34])) t') { s with toks := k }) : wpAny (model prog w) A (binaryOp .Add (.str (tx ([34] ++ b)) t) (.str (PySem.Str.ofString "\"") u)) Q E s :=
  add_tx (a := [34] ++ b) (b := [34]) (by rw [List.length_append]; show 1 + b.length + 1 ≤ 1000; lia) h
theorem add_t1 {c : Nat} (hz : a.length ≤ 900) (h : ∀ t' k, Q (.str (tx (a ++ [c])) t') { s with toks := k }) : wpAny (model prog w) A (binaryOp .Add (.str (tx a) t) (.str (tx [c]) u)) Q E s :=
  add_tx (a := a) (b := [c]) (by show a.length + 1 ≤ 1000; lia) h
end
theorem bs_len (c : Nat) : (bs c).length ≤ 2 := Nat.le_refl 2
theorem words2_written : True := by
  k_with "binaryOp Add str str" => ((k_here; with_reducible (first | refine add_bs ?_ | refine add_q (by assumption) ?_ | refine add_tq (by assumption) ?_ | refine add_t1 (by assumption) ?_); intros))
  k_with "call builtin:str.join" => ((k_here; (refine join_strs (by k_asm) (by k_mem) (by with_reducible assumption) (Nat.le_trans (by assumption) (by decide : 900 ≤ 1000)) ?_); intros))
  k_with "CompRest" => ((k_here; (with_reducible show LCg.CompRest _ _ _ _ _ _ _ _ _ _ _ _ _ _ _ (List.length _) 0 [] _); (refine Stop.go ?_)))
  k_with "subscriptTail Constant str BinOp str int" => ((k_here; (refine sub_tn (Int.fmod_nonneg_of_pos _ (by decide)) (Int.fmod_lt_of_pos _ (by decide)) (by assumption) ?_)))
  exact True.intro

set_option maxHeartbeats 2000000 in
theorem written2_spec (w : World) (cs : List Nat) (hcs : cs.length = 6) (way : Int) (t1 t2 : Tok) :
    Spec w 166 1 [.str (tx cs) t1, .int way t2] [] (fun v news => news = [] ∧ ∃ t, v = .str (tx (wrt cs way)) t) := by
  unfold Spec
  w_top off
  k_fill
  intro mean mg mb p loose dp un gd fr base g s R B X T hsz H hdp hu hret
  have z1 : (cs.map esc).flatten.length ≤ 900 := Nat.le_trans (flat_len esc_len cs) (by rw [hcs]; decide)
  have z2 : (cs.map bs).flatten.length ≤ 900 := Nat.le_trans (flat_len bs_len cs) (by rw [hcs]; decide)
  k_dflt (refine enter (binds := [("word", .str (tx cs) t1), ("way", .int way t2)]) (by assumption) (by assumption) (by assumption) (by assumption) (by assumption) (by k_is) (by k_is) (by k_room) (BindsTo.of_eq rfl) (locs rfl) ?_ rfl rfl rfl (by decide))
  intro L' h' F' N' l1
  (have offK' := off1_of (fun r hr => Nat.ne_of_lt (l1 r hr)))
  (try (replace l1 := allLt_of l1; simp only [AllLt, and_true] at l1))
  (try dsimp only [List.length_cons, List.length_nil, List.reverse_cons, List.reverse_nil, List.nil_append, List.cons_append])
  (try k_fold)
  repeat' (first | (k_unfold; (try dsimp only)) | (k_end; wrow_close) | walk1 | (dsimp only; walk1) | (dsimp only; k_unfold; (try dsimp only)) | (leave1; walk_say "STEP leave1"; (try dsimp only)) | fail "no step")
  · skip
    unfold Stop
    refine rest_all (fun i v => ∃ t, v = Value.str (tx (esc (cs[i]?.getD 0))) t) trivial ?turn ?fin
    case turn =>
      intro i v I' oI' C' oC' D' m2' ys' h' tk' E' Q' hi' hv' hC' hx' F' N' off' ne' hc'
      obtain ⟨t9', rfl⟩ := hv'
      repeat' (first | (k_unfold; (try dsimp only)) | (k_end; wrow_close) | walk1 | (dsimp only; walk1) | (dsimp only; k_unfold; (try dsimp only)) | (leave1; walk_say "STEP leave1"; (try dsimp only)) | fail "no step")
      exact hc' _ _ _ ⟨_, rfl⟩ (by k_asm) (News.sub (by k_asm) (by lcg_sub))
    case fin =>
    intro ys' hl' hy'
    have hS' := strs_by hl' hy'
    clear hy'
    repeat' (first | (k_unfold; (try dsimp only)) | (k_end; wrow_close) | walk1 | (dsimp only; walk1) | (dsimp only; k_unfold; (try dsimp only)) | (leave1; walk_say "STEP leave1"; (try dsimp only)) | fail "no step")
    have e : wrt cs way = [34] ++ (cs.map esc).flatten ++ [34] := if_pos (by assumption)
    exact spec_end hret (by assumption) (by assumption) [] ⟨rfl, _, by rw [e]⟩ (fun _ h => nomatch h)
  · skip
    unfold Stop
    refine rest_all (fun i v => ∃ t, v = Value.str (tx (bs (cs[i]?.getD 0))) t) trivial ?turn ?fin
    case turn =>
      intro i v I' oI' C' oC' D' m2' ys' h' tk' E' Q' hi' hv' hC' hx' F' N' off' ne' hc'
      obtain ⟨t9', rfl⟩ := hv'
      repeat' (first | (k_unfold; (try dsimp only)) | (k_end; wrow_close) | walk1 | (dsimp only; walk1) | (dsimp only; k_unfold; (try dsimp only)) | (leave1; walk_say "STEP leave1"; (try dsimp only)) | fail "no step")
      exact hc' _ _ _ ⟨_, rfl⟩ (by k_asm) (News.sub (by k_asm) (by lcg_sub))
    case fin =>
    intro ys' hl' hy'
    have hS' := strs_by hl' hy'
    clear hy'
    repeat' (first | (k_unfold; (try dsimp only)) | (k_end; wrow_close) | walk1 | (dsimp only; walk1) | (dsimp only; k_unfold; (try dsimp only)) | (leave1; walk_say "STEP leave1"; (try dsimp only)) | fail "no step")
    have e : wrt cs way = (cs.map bs).flatten ++ [if way.fmod 3 = 1 then 9 else 10] := if_neg (by assumption)
    exact spec_end hret (by assumption) (by assumption) [] ⟨rfl, _, by rw [e]⟩ (fun _ h => nomatch h)

end

section
/-- the sign at a place -/
noncomputable def at' (a : List Nat) (i : Nat) : Nat := a[i]?.getD 0
theorem slice_drop {a : List Nat} {i : Int} (h0 : 0 ≤ i) (h2 : i ≤ a.length) : Txt.slice (tx a) (some i) none = tx (a.drop i.toNat) := by
  have e : ((tx a).length : Int) = a.length := by rw [tx_length]
  rw [slice_from_eq (b := (a.length : Int)) h0 (by rw [tx_length]; exact h2) e.symm]
  show (⟨_⟩ : PySem.Str) = ⟨_⟩
  congr 2
  show (a.drop i.toNat).take _ = _
  exact List.take_of_length_le (by rw [List.length_drop]; lia)
theorem slice_neg {x : PySem.Str} {j : Int} (h0 : j < 0) (h1 : 0 ≤ (x.length : Int) + j) : Txt.slice x none (some j) = Txt.slice x none (some (x.length + j)) := by
  have e : Builtin.Str.strSliceIndices none (some j) 1 x.length = Builtin.Str.strSliceIndices none (some (x.length + j)) 1 x.length := by
    unfold Builtin.Str.strSliceIndices
    simp only [show (1 : Int) > 0 by decide, if_true, if_pos h0, if_neg (show ¬ ((x.length : Int) + j < 0) by lia)]
    rw [Int.add_comm j]
  unfold Txt.slice
  rw [e]
theorem slice_take {a : List Nat} {j : Int} (h0 : j < 0) (h1 : 0 ≤ (a.length : Int) + j) : Txt.slice (tx a) none (some j) = tx (a.take (a.length + j).toNat) := by
  rw [slice_neg h0 (by rw [tx_length]; exact h1), tx_length]
  have z := slice_closes_toL (x := tx a) (j := a.length + j) h1 (by rw [tx_length]; lia)
  rw [beq_iff_eq.mp z]
  show (⟨_⟩ : PySem.Str) = ⟨_⟩
  congr 2
  show (a.drop 0).take _ = _
  rw [List.drop_zero]
  congr 1
  lia
theorem slice_all {a : List Nat} : Txt.slice (tx a) none none = tx a := by
  unfold Txt.slice
  rw [if_pos]
  unfold Builtin.Str.strSliceIndices sliceRange
  simp only [show (1 : Int) > 0 by decide, if_true, tx_length]
  split <;> simp <;> lia
theorem item_at {a : List Nat} {i : Int} (h0 : 0 ≤ i) (h1 : i < a.length) : Txt.item (tx a) i = tx [at' a i.toNat] := by
  unfold Txt.item Txt.charAt seqIndex?
  rw [tx_length]
  simp only [if_neg (show ¬ i < 0 by lia)]
  rw [if_pos (by simp only [Bool.and_eq_true, decide_eq_true_eq]; lia)]
  show (⟨_⟩ : PySem.Str) = ⟨_⟩
  simp only [Option.bind_some, tx, at']
  simp
theorem item_neg {a : List Nat} {i : Int} (h0 : i < 0) (h1 : 0 ≤ (a.length : Int) + i) : Txt.item (tx a) i = tx [at' a (a.length + i).toNat] := by
  unfold Txt.item Txt.charAt seqIndex?
  rw [tx_length]
  simp only [if_pos h0]
  rw [if_pos (by simp only [Bool.and_eq_true, decide_eq_true_eq]; lia)]
  show (⟨_⟩ : PySem.Str) = ⟨_⟩
  simp only [Option.bind_some, tx, at']
  rw [Int.add_comm]
  simp
/-- a frame's names told ahead of the others -/
noncomputable def frm (l : List (PySem.Str × Value)) (m : PySem.Str → Option Value) : PySem.Str → Option Value := fun y => match l.lookup y with | some v => some v | none => m y
noncomputable def Tells (m : PySem.Str → Option Value) : List (PySem.Str × Value) → Prop
  | [] => True
  | p :: r => m p.1 = some p.2 ∧ Tells m r
theorem tells_lookup {m : PySem.Str → Option Value} : ∀ {l : List (PySem.Str × Value)} {y : PySem.Str} {v : Value}, Tells m l → l.lookup y = some v → m y = some v
  | [], _, _, _, h => nomatch h
  | p :: r, y, v, ht, h => by
    rw [List.lookup_cons] at h
    by_cases e : y = p.1
    · subst e
      rw [beq_self_eq_true] at h
      cases h
      exact ht.1
    · rw [show (y == p.1) = false from beq_eq_false_iff_ne.mpr e] at h
      exact tells_lookup ht.2 h
theorem Fr.front {h₀ h : Heap} {L : Addr} {m : PySem.Str → Option Value} (F : Fr h₀ L h m) (l : List (PySem.Str × Value)) (hl : Tells m l) : Fr h₀ L h (frm l m) := by
  refine Fr.of_eq F fun y => ?_
  unfold frm
  split
  · rename_i v e; exact (tells_lookup hl e)
  · rfl
noncomputable def ct (a b : List Nat) (i j : Nat) : Int := cost (tx [at' b i]) (tx [at' a j])
noncomputable def psum (a b : List Nat) : Nat → Int
  | 0 => 0
  | k + 1 => psum a b k + ct a b k k
structure Near (a b : List Nat) : Prop where
  len : a.length = b.length
  off : ∀ i j, i < a.length → j < a.length → i ≠ j → ct a b i j = 2
  on : ∀ i, i < a.length → ct a b i i ≤ 1
theorem cost_nonneg (x y : PySem.Str) : 0 ≤ cost x y := by unfold cost; split; decide; split <;> decide
theorem cost_self (x : PySem.Str) : cost x x = 0 := if_pos rfl
theorem ct_nonneg (a b : List Nat) (i j : Nat) : 0 ≤ ct a b i j := cost_nonneg _ _
theorem psum_mono {a b : List Nat} {i j : Nat} (h : i ≤ j) : psum a b i ≤ psum a b j := by
  induction h with
  | refl => exact Int.le_refl _
  | step _ ih => have := ct_nonneg a b; rename_i k _; have := this k k; show _ ≤ psum a b k + ct a b k k; lia
theorem psum_nonneg (a b : List Nat) (k : Nat) : 0 ≤ psum a b k := psum_mono (i := 0) (Nat.zero_le k)
theorem psum_same {a b : List Nat} : ∀ {k : Nat}, (∀ i, i < k → at' a i = at' b i) → psum a b k = 0
  | 0, _ => rfl
  | k + 1, h => by
    show psum a b k + ct a b k k = 0
    rw [psum_same fun i hi => h i (Nat.lt_succ_of_lt hi)]
    unfold ct
    rw [h k (Nat.lt_succ_self k), cost_self]
    rfl
theorem at_drop (a : List Nat) (p i : Nat) : at' (a.drop p) i = at' a (p + i) := by unfold at'; rw [List.getElem?_drop]
theorem at_take (a : List Nat) {m i : Nat} (h : i < m) : at' (a.take m) i = at' a i := by unfold at'; rw [List.getElem?_take, if_pos h]
theorem Near.drop {a b : List Nat} (h : Near a b) (p : Nat) : Near (a.drop p) (b.drop p) := by
  refine ⟨by rw [List.length_drop, List.length_drop, h.len], fun i j hi hj hn => ?_, fun i hi => ?_⟩
  · rw [List.length_drop] at hi hj
    have := h.off (p + i) (p + j) (by lia) (by lia) (by lia)
    unfold ct at *
    rw [at_drop, at_drop]; exact this
  · rw [List.length_drop] at hi
    have := h.on (p + i) (by lia)
    unfold ct at *
    rw [at_drop, at_drop]; exact this
theorem Near.take {a b : List Nat} (h : Near a b) (m : Nat) : Near (a.take m) (b.take m) := by
  refine ⟨by rw [List.length_take, List.length_take, h.len], fun i j hi hj hn => ?_, fun i hi => ?_⟩
  · rw [List.length_take] at hi hj
    have := h.off i j (by lia) (by lia) hn
    unfold ct at *
    rw [at_take _ (by lia), at_take _ (by lia)]; exact this
  · rw [List.length_take] at hi
    have := h.on i (by lia)
    unfold ct at *
    rw [at_take _ (by lia), at_take _ (by lia)]; exact this
theorem psum_drop {a b : List Nat} {p : Nat} (h : ∀ i, i < p → at' a i = at' b i) : ∀ k, psum (a.drop p) (b.drop p) k = psum a b (p + k)
  | 0 => (psum_same h).symm
  | k + 1 => by
    show psum _ _ k + ct _ _ k k = psum a b (p + k) + ct a b (p + k) (p + k)
    rw [psum_drop h k]
    unfold ct
    rw [at_drop, at_drop]
theorem psum_take {a b : List Nat} {m : Nat} : ∀ k, k ≤ m → psum (a.take m) (b.take m) k = psum a b k
  | 0, _ => rfl
  | k + 1, h => by
    show psum _ _ k + ct _ _ k k = psum a b k + ct a b k k
    rw [psum_take k (by lia)]
    unfold ct
    rw [at_take _ (by lia), at_take _ (by lia)]
theorem psum_tail {a b : List Nat} {n : Nat} : ∀ q, q ≤ n → (∀ i, i < q → at' a (n - 1 - i) = at' b (n - 1 - i)) → psum a b n = psum a b (n - q)
  | 0, _, _ => rfl
  | q + 1, hq, h => by
    rw [psum_tail q (by lia) fun i hi => h i (by lia)]
    obtain ⟨r, hr⟩ : ∃ r, n - q = r + 1 := ⟨n - (q + 1), by lia⟩
    rw [hr, show n - (q + 1) = r by lia]
    show psum a b r + ct a b r r = psum a b r
    have := h q (by lia)
    rw [show n - 1 - q = r by lia] at this
    unfold ct
    rw [this, cost_self]; lia
section
variable {prog : Program} {w : World} {A : Around} {E : Value → Shared → Prop} {s : Shared} {h₀ : Heap} {L : Addr} {m : PySem.Str → Option Value} {news : List (Addr × Obj)} {a : List Nat} {t u : Tok} {value slice : PySem.Expr} {i j : Int} {Q : Value → Shared → Prop}
theorem sl_from {k : Nat} (hF : Fr h₀ L s.heap m) (hN : News h₀ L s.heap news) (h2 : k ≤ a.length) (hz : a.length ≤ 1000)
    (h : ∀ h' t' k', Fr h₀ L h' m → News h₀ L h' news → Q (.str (tx (a.drop k)) t') { s with heap := h', toks := k' })
    (hs : subscripted slice false (.str (tx a) t) (.ref s.heap.objs.size) = operate [.ref s.heap.objs.size, .str (tx a) t] (getItem (.str (tx a) t) (.ref s.heap.objs.size)) := by with_unfolding_all rfl)
    (ht : ∀ r, letTemporaryGo value (.str (tx a) t) r = pure () := by intro _; with_unfolding_all rfl) :
    wpAny (model prog w) A (subscriptTail value slice (.str (tx a) t) (.ref s.heap.objs.size)) Q E { s with heap := s.heap.push { cls := .type "slice", data := .fields #[.int (k : Int) u, .none, .none] } } :=
  slice_strN_sn hF hN (fun h' t' k' F N => by rw [slice_drop (Int.natCast_nonneg k) (by lia), Int.toNat_natCast]; exact h h' t' k' F N) hs ht (by rw [tx_length, sizeLine_eq]; lia)
theorem sl_to (hF : Fr h₀ L s.heap m) (hN : News h₀ L s.heap news) (h0 : j < 0) (h2 : 0 ≤ (a.length : Int) + j) (hz : a.length ≤ 1000)
    (h : ∀ h' t' k, Fr h₀ L h' m → News h₀ L h' news → Q (.str (tx (a.take (a.length + j).toNat)) t') { s with heap := h', toks := k })
    (hs : subscripted slice false (.str (tx a) t) (.ref s.heap.objs.size) = operate [.ref s.heap.objs.size, .str (tx a) t] (getItem (.str (tx a) t) (.ref s.heap.objs.size)) := by with_unfolding_all rfl)
    (ht : ∀ r, letTemporaryGo value (.str (tx a) t) r = pure () := by intro _; with_unfolding_all rfl) :
    wpAny (model prog w) A (subscriptTail value slice (.str (tx a) t) (.ref s.heap.objs.size)) Q E { s with heap := s.heap.push { cls := .type "slice", data := .fields #[.none, .int j u, .none] } } :=
  slice_strN_ns hF hN (fun h' t' k F N => by rw [slice_take h0 h2]; exact h h' t' k F N) hs ht (by rw [tx_length, sizeLine_eq]; lia)
theorem sl_all (hF : Fr h₀ L s.heap m) (hN : News h₀ L s.heap news) (hz : a.length ≤ 1000)
    (h : ∀ h' t' k, Fr h₀ L h' m → News h₀ L h' news → Q (.str (tx a) t') { s with heap := h', toks := k })
    (hs : subscripted slice false (.str (tx a) t) (.ref s.heap.objs.size) = operate [.ref s.heap.objs.size, .str (tx a) t] (getItem (.str (tx a) t) (.ref s.heap.objs.size)) := by with_unfolding_all rfl)
    (ht : ∀ r, letTemporaryGo value (.str (tx a) t) r = pure () := by intro _; with_unfolding_all rfl) :
    wpAny (model prog w) A (subscriptTail value slice (.str (tx a) t) (.ref s.heap.objs.size)) Q E { s with heap := s.heap.push { cls := .type "slice", data := .fields #[.none, .none, .none] } } :=
  slice_strN_nn hF hN (fun h' t' k F N => by rw [slice_all]; exact h h' t' k F N) hs ht (by rw [tx_length, sizeLine_eq]; lia)
theorem it_pos {k : Nat} (h1 : k < a.length) (hz : a.length ≤ 1000) (h : Q (.str (tx [at' a k]) s.toks) { s with toks := s.toks + 1 })
    (hs : subscripted slice false (.str (tx a) t) (.int (k : Int) u) = operate [.str (tx a) t, .int (k : Int) u] (getItem (.str (tx a) t) (.int (k : Int) u)) := by with_unfolding_all rfl)
    (ht : ∀ r, letTemporaryGo value (.str (tx a) t) r = pure () := by intro _; with_unfolding_all rfl) :
    wpAny (model prog w) A (subscriptTail value slice (.str (tx a) t) (.int (k : Int) u)) Q E s :=
  item_str (fitsSsize_of (N := 9223372036854775808) (by lia) (by lia) (Int.le_refl _)) (by rw [tx_length]; lia) (by rw [tx_length]; lia) (fun _ => by rw [item_at (Int.natCast_nonneg k) (by lia), Int.toNat_natCast]; exact h) hs ht
theorem it_neg {q : Nat} (h1 : q < a.length) (hz : a.length ≤ 1000) (h : Q (.str (tx [at' a (a.length - 1 - q)]) s.toks) { s with toks := s.toks + 1 })
    (hs : subscripted slice false (.str (tx a) t) (.int (-(q : Int) - 1) u) = operate [.str (tx a) t, .int (-(q : Int) - 1) u] (getItem (.str (tx a) t) (.int (-(q : Int) - 1) u)) := by with_unfolding_all rfl)
    (ht : ∀ r, letTemporaryGo value (.str (tx a) t) r = pure () := by intro _; with_unfolding_all rfl) :
    wpAny (model prog w) A (subscriptTail value slice (.str (tx a) t) (.int (-(q : Int) - 1) u)) Q E s :=
  item_str (fitsSsize_of (N := 9223372036854775808) (by lia) (by lia) (Int.le_refl _)) (by rw [tx_length]; lia) (by rw [tx_length]; lia)
    (fun _ => by rw [item_neg (by lia) (by lia), show ((a.length : Int) + (-(q : Int) - 1)).toNat = a.length - 1 - q by lia]; exact h) hs ht
theorem truthy_tx {Q : Bool → Shared → Prop} (h1 : 0 < a.length) (hz : a.length ≤ 1000) (h : Q true { s with toks := s.toks + 1 + 1 }) : wpAny (model prog w) A (truthy (.str (tx a) t)) Q E s :=
  P.truthy_str (by rw [tx_length]; lia) (by rw [tx_length]; rw [show (((a.length : Int)) != 0) = true from bne_iff_ne.mpr (by lia)]; exact h)
theorem sub_post {x y : PySem.Str} {px py p1 p2 p3 p4 : Pos} {k1 : Nat} {env : Env} {q : Nat}
    (ha : ∀ (k : Nat) (Q' : Value → Shared → Prop), Q' (.str (tx a) t) { s with toks := k } → wpAny (model prog w) A (eval (.Name x px) env) Q' E { s with toks := k })
    (hp : ∀ (k : Nat) (Q' : Value → Shared → Prop), Q' (.int (-(q : Int)) u) { s with toks := k } → wpAny (model prog w) A (eval (.Name y py) env) Q' E { s with toks := k })
    (F : Fr h₀ L s.heap m) (N : News h₀ L s.heap news) (hq : q ≤ a.length) (hz : a.length ≤ 1000)
    (h : ∀ h' t' k, Fr h₀ L h' m → News h₀ L h' news → Q (.str (tx (a.take (a.length - q))) t') { s with heap := h', toks := k }) :
    wpAny (model prog w) A (eval (.Subscript (.Name x px) (.Slice none (some (.BoolOp .Or [.Name y py, .Constant .none k1 p1] p2)) none p3) p4) env) Q E s := by
  refine Subscript_ (ha s.toks _ ?_)
  refine wpAny_Slice (evalPart_none_step (evalPart_some_step (BoolOp_or ?_)))
  refine hp s.toks _ ?_
  refine P.truthy_int ?_
  by_cases e : q = 0
  · subst e
    rw [show ((-((0 : Nat) : Int)) != 0) = false from rfl, if_neg Bool.false_ne_true]
    refine BoolOp_one (wpAny_Constant_none ?_)
    refine evalPart_none_step ?_
    refine sl_all (s := ⟨_, _, _, _, _⟩) F N hz fun h' t' k F' N' => ?_
    have z := h h' t' k F' N'
    rw [Nat.sub_zero, List.take_length] at z
    exact z
  · rw [show ((-(q : Int)) != 0) = true from bne_iff_ne.mpr (by lia), if_pos rfl]
    refine evalPart_none_step ?_
    refine sl_to (s := ⟨_, _, _, _, _⟩) F N (by lia) (by lia) hz fun h' t' k F' N' => ?_
    have z := h h' t' k F' N'
    rw [show ((a.length : Int) + -(q : Int)).toNat = a.length - q by lia]
    exact z
theorem eq_signs {a b : List Nat} {i j : Nat} {c : Bool} (h : (tx [at' a i] == tx [at' b j]) = c) : c = true ↔ at' a i = at' b j := by
  rw [← h, beq_iff_eq, tx_inj]
  simp
theorem len_tx {n : Nat} (hn : a.length = n) (hz : n ≤ 1000) (h : Q (.int (n : Int) (s.toks + 1)) { s with toks := s.toks + 1 + 1 }) : wpAny (model prog w) A (PySem.call (.builtin "len") [.str (tx a) t]) Q E s :=
  P.len_str (by rw [tx_length]; lia) (by rw [tx_length, hn]; exact h)
end
/-- the ints of a row -/
noncomputable def RowO (o : Obj) (M : Nat) (f : Nat → Int) : Prop := o.cls = .type "list" ∧ ∃ n vs, o.data = .seq vs n ∧ vs.size = M ∧ ∀ j, j < M → ∃ t, vs[j]? = some (.int (f j) t)
section
variable {prog : Program} {w : World} {A : Around} {E : Value → Shared → Prop} {s : Shared} {h₀ : Heap} {L D : Addr} {m : PySem.Str → Option Value} {news : List (Addr × Obj)} {t u v : Tok} {value slice : PySem.Expr} {o : Obj} {M k : Nat} {f : Nat → Int} {g : Obj → List (Addr × Obj)}
theorem list_rng2 {r : Addr} {Q : Value → Shared → Prop} (hh : A.handled = none) (F : Fr h₀ L s.heap m) (N : News h₀ L s.heap news) (hr : IsRange s.heap r 2 (2 * ((M : Int) + 1)) 2 t u v) (hM : M ≤ 1000)
    (h : ∀ D h' tk o, RowO o M (fun j => 2 * ((j : Int) + 1)) → Fr h₀ L h' m → News h₀ L h' ((D, o) :: news) → (∀ p ∈ news, p.1 < D) → Q (.ref D) { s with heap := h', toks := tk }) :
    wpAny (model prog w) A (PySem.call (.type "list") [.ref r]) Q E s := by
  have hn : Builtin.Range.rangeSize 2 (2 * ((M : Int) + 1)) 2 = (M : Int) := by
    unfold Builtin.Range.rangeSize
    rw [if_pos (by decide)]
    split <;> lia
  have hs : Builtin.Range.small 2 (2 * ((M : Int) + 1)) 2 = true := by
    have fit : ∀ x : Int, 0 ≤ x → x ≤ 5000 → Builtin.Range.rangeFitsLong x = true := by
      intro x h0 h1
      unfold Builtin.Range.rangeFitsLong
      rw [Bool.and_eq_true, decide_eq_true_eq, decide_eq_true_eq]
      lia
    unfold Builtin.Range.small
    rw [hn, fit 2 (by lia) (by lia), fit (2 * ((M : Int) + 1)) (by lia) (by lia), fit (M : Int) (by lia) (by lia), if_pos (show (2 : Int) > 0 by lia), fit (2 * ((M : Int) + 1) + (2 - 1)) (by lia) (by lia), Bool.or_true]
    rfl
  refine call_list_range hh hr hs hn (by lia) fun h' tk acc' c' hk hS' hacc => ?_
  refine h _ h' tk { cls := .type "list", dict := none, data := .seq acc' c', slots := #[] } ⟨rfl, c', acc', rfl, hacc.1, fun j hj => ?_⟩ (F.keeps hk) (fun p hp => ?_) (fun p hp => Heap.lt_size (N p hp).1)
  · have hj' : j < acc'.size := by rw [hacc.1]; exact hj
    obtain ⟨t, e⟩ := hacc.2 j acc'[j] (Array.getElem?_eq_getElem hj')
    have e2 : (2 : Int) + ((j : Nat) : Int) * 2 = 2 * ((j : Int) + 1) := by lia
    exact ⟨t, by rw [Array.getElem?_eq_getElem hj', e, e2]⟩
  · rcases List.mem_cons.mp hp with rfl | hp
    · exact ⟨hS', Ne.symm (Nat.ne_of_lt F.ns.lt), next_is_new F⟩
    · exact ⟨hk _ _ (N p hp).1, (N p hp).2⟩
theorem row_get {Q : Value → Shared → Prop} (N : News h₀ L s.heap news) (hm : (D, o) ∈ news) (R : RowO o M f) (hk : k < M) (hM : M ≤ 1000) (h : ∀ t, Q (.int (f k) t) s)
    (hs : subscripted slice false (.ref D) (.int (k : Int) u) = operate [.ref D, .int (k : Int) u] (getItem (.ref D) (.int (k : Int) u)) := by with_unfolding_all rfl) :
    wpAny (model prog w) A (subscriptTail value slice (.ref D) (.int (k : Int) u)) Q E s := by
  obtain ⟨hc, n, vs, hd, hz, hv⟩ := R
  obtain ⟨t, e⟩ := hv k hk
  refine tail_any ⟨_, (N _ hm).1, hc⟩ slot_list_getitem.lookup (wpAny_getItem_list ⟨_, (N _ hm).1, hc, n, hd⟩ (by lia) (by lia) (by rw [Int.toNat_natCast]; exact e) (h t)) hs
theorem row_set {Q : Unit → Shared → Prop} {x : Int} (F : Fr h₀ L s.heap m) (N : News h₀ L s.heap news) (U : UpdF D o news g) (R : RowO o M f) (hk : k < M) (hM : M ≤ 1000)
    (h : ∀ h' o', RowO o' M (fun j => if j = k then x else f j) → Fr h₀ L h' m → News h₀ L h' (g o') → Q () { s with heap := h' }) :
    wpAny (model prog w) A (setItem (.ref D) (.int (k : Int) u) (.int x t)) Q E s := by
  obtain ⟨pre, post, rfl, eg, a, b⟩ := U.split
  obtain ⟨hc, n, vs, hd, hz, hv⟩ := R
  have z := N (D, o) (List.mem_append.mpr (.inr (.head _)))
  refine wpAny_setItem_list ⟨_, z.1, hc, n, hd⟩ (by lia) (by lia) (by lia) fun h' hl' hs' => ?_
  obtain ⟨o', ho', hc', n', hd'⟩ := hl'
  refine h h' o' ⟨hc', n', _, hd', by simp [hz], fun j hj => ?_⟩ (F.change hs' z.2.1 z.2.2) (by rw [eg]; exact news_set N a b hs' ho')
  rw [Int.toNat_natCast]
  by_cases e : j = k
  · subst e
    exact ⟨t, by dsimp only; rw [if_pos rfl]; simp [hz, hj]⟩
  · dsimp only
    rw [if_neg e]
    obtain ⟨t', e'⟩ := hv j hj
    exact ⟨t', by rw [Array.getElem?_setIfInBounds]; rw [if_neg (fun q => e q.symm)]; exact e'⟩
end
/-- the least price of i signs for j signs -/
noncomputable def DD (a b : List Nat) (i j : Nat) : Int := if i ≤ j then psum a b i + 2 * ((j : Int) - i) else psum a b j + 2 * ((i : Int) - j)
theorem DD_le {a b : List Nat} {i j : Nat} (h : i ≤ j) : DD a b i j = psum a b i + 2 * ((j : Int) - i) := if_pos h
theorem DD_ge {a b : List Nat} {i j : Nat} (h : j ≤ i) : DD a b i j = psum a b j + 2 * ((i : Int) - j) := by
  by_cases e : i = j
  · subst e; exact if_pos (Nat.le_refl _)
  · exact if_neg (by lia)
theorem DD_step {a b : List Nat} (h : Near a b) {i j : Nat} (hi : i < a.length) (hj : j < a.length) {res : Int} (hr : res = if j = 0 then 2 * (i : Int) else DD a b (i + 1) j) :
    min (min res (DD a b i (j + 1)) + 2) (DD a b i j + ct a b i j) = DD a b (i + 1) (j + 1) := by
  have c0 := ct_nonneg a b i i
  have c1 := h.on i hi
  have d0 := ct_nonneg a b j j
  have d1 := h.on j hj
  have pi : psum a b (i + 1) = psum a b i + ct a b i i := rfl
  have pj : psum a b (j + 1) = psum a b j + ct a b j j := rfl
  have n0 := psum_nonneg a b i
  have n1 := psum_nonneg a b j
  have m0 : res = 2 * (i : Int) ∧ j = 0 ∨ res = DD a b (i + 1) j ∧ j ≠ 0 := by
    by_cases e : j = 0
    · exact .inl ⟨by rw [hr, if_pos e], e⟩
    · exact .inr ⟨by rw [hr, if_neg e], e⟩
  rcases Nat.lt_trichotomy i j with e | e | e
  · have off := h.off i j hi hj (by lia)
    rw [DD_le (show i + 1 ≤ j by lia)] at m0
    rw [off, DD_le (show i ≤ j by lia), DD_le (show i ≤ j + 1 by lia), DD_le (show i + 1 ≤ j + 1 by lia)]
    have := psum_mono (a := a) (b := b) (show i + 1 ≤ j by lia)
    lia
  · subst e
    rw [DD_ge (show i ≤ i + 1 by lia)] at m0
    rw [DD_le (show i ≤ i by lia), DD_le (show i ≤ i + 1 by lia), DD_le (show i + 1 ≤ i + 1 by lia)]
    have z0 : i = 0 → psum a b i = 0 := fun e => e ▸ rfl
    lia
  · have off := h.off i j hi hj (by lia)
    rw [DD_ge (show j ≤ i + 1 by lia)] at m0
    rw [off, DD_ge (show j ≤ i by lia), DD_ge (show j + 1 ≤ i by lia), DD_ge (show j + 1 ≤ i + 1 by lia)]
    have z0 : j = 0 → psum a b j = 0 := fun e => e ▸ rfl
    lia
theorem DD_diag (a b : List Nat) (i : Nat) : DD a b i i = psum a b i := by rw [DD_le (Nat.le_refl _)]; lia
theorem step_val {a b : List Nat} (h : Near a b) {i j : Nat} (hi : i < a.length) (hj : j < a.length) {res dist : Int} (hr : res = if j = 0 then 2 * (i : Int) else DD a b (i + 1) j) (hd : dist = DD a b i j) :
    (if dist + cost (tx [at' b i]) (tx [at' a j]) < (if (if j < j then DD a b (i + 1) (j + 1) else DD a b i (j + 1)) < res then if j < j then DD a b (i + 1) (j + 1) else DD a b i (j + 1) else res) + 2 then
      dist + cost (tx [at' b i]) (tx [at' a j])
    else (if (if j < j then DD a b (i + 1) (j + 1) else DD a b i (j + 1)) < res then if j < j then DD a b (i + 1) (j + 1) else DD a b i (j + 1) else res) + 2) = DD a b (i + 1) (j + 1) := by
  rw [if_neg (Nat.lt_irrefl j)]
  have z := DD_step h hi hj hr
  have c : cost (tx [at' b i]) (tx [at' a j]) = ct a b i j := rfl
  rw [c, hd]
  rw [← z]
  generalize DD a b i (j + 1) = x
  generalize DD a b i j + ct a b i j = y
  split <;> split <;> lia
theorem row_step {a b : List Nat} {i j : Nat} {X : Int} (e : X = DD a b (i + 1) (j + 1)) : (fun c : Nat => if c = j then X else if c < j then DD a b (i + 1) (c + 1) else DD a b i (c + 1)) = fun c => if c < j + 1 then DD a b (i + 1) (c + 1) else DD a b i (c + 1) := by
  funext c
  by_cases h : c = j
  · subst h; rw [if_pos rfl, if_pos (Nat.lt_succ_self c), e]
  · rw [if_neg h]
    by_cases h2 : c < j
    · rw [if_pos h2, if_pos (by lia)]
    · rw [if_neg h2, if_neg (by lia)]
theorem at_ext {a b : List Nat} (hl : a.length = b.length) (h : ∀ d, d < a.length → at' a d = at' b d) : a = b := by
  refine List.ext_getElem hl fun i h1 h2 => ?_
  have := h i h1
  unfold at' at this
  rw [List.getElem?_eq_getElem h1, List.getElem?_eq_getElem h2] at this
  exact this
theorem at_diff {a b : List Nat} (hl : a.length = b.length) (h : a ≠ b) : ∃ d, d < a.length ∧ at' a d ≠ at' b d := by
  apply Classical.byContradiction
  intro hn
  exact h (at_ext hl fun d hd => Classical.byContradiction fun hc => hn ⟨d, hd, hc⟩)

end

section
theorem words_spelled : True := by
  k_with_none
  k_with "k_room" => (first | decide | ((try simp only [depth_under_make, depth_under_kw, depth_in1, depth_deeper, depth_caller]); lia))
  k_with "eval ListComp" => ((k_here; k_dflt (refine LCg.ListComp_U (F₀ := by k_asm) (by with_unfolding_all rfl) (by decide) (by rfl) (by decide) (by rfl) ?_); k_dflt lcg_toSrc))
  k_with "exec Assign cons ListComp" => ((k_here; k_dflt (refine LCg.Assign_ListComp_U (F₀ := by k_asm) (by rfl) (by with_unfolding_all rfl) (by with_unfolding_all rfl) (by decide) (by rfl) (by decide) (by rfl) (by rfl) (by rfl) ?_); k_dflt lcg_toSrc))
  k_with "CompSrc" => ((k_here; k_dflt (first | (refine LCg.CompSrc.ledger (by rfl) (by k_asm) (by k_asm) (by k_mem) (by first | exact Nat.le_of_ble_eq_true rfl | size_fits) ?_; intro g'; lcg_lit) | (refine LCg.CompSrc.range (by rfl) (by k_asm) (by k_asm) (by assumption) (by first | decide | rfl) (by first | rfl | decide) (by first | exact Nat.le_of_ble_eq_true rfl | size_fits) ?_; intro g'; lcg_lit))))
  k_with "binaryOp Pow int int" => ((k_here; with_reducible refine pow_pw ?kb1 ?kb2 ?_; (case kb1 => assumption); (case kb2 => assumption)))
  k_with "binaryOp Mult int int" => ((k_here; with_reducible refine mul_pw ?kb1 ?kb2 ?_; (case kb1 => assumption); (case kb2 => assumption)))
  k_with "binaryOp BitXor int int" => ((k_here; with_reducible refine xor_xr ?_))
  k_with "CompRest" => ((with_unfolding_all first | (refine LCg.CompRest.succ ?_; intro v' I' oI' C' oC' D' m' h' tk' E' hv' hC' hx' F' N' off' ne'; (first | lcg_open hv' | (obtain ⟨t9', hv9'⟩ := hv'; subst hv9')); (obtain ⟨neIC', neID', neCD'⟩ := ne')) | refine LCg.CompRest.zero ?_))
  k_with "lcg_off" => (with_reducible assumption)
  k_with "CompEnd" => (lcg_end)
  k_with "eval Name" => ((k_here; k_dflt (first
  | (refine' nameX_L ?F ?v ?_ ?a ?b; (case F => k_asm); (case a => rfl); (case b => rfl); (case v => rfl); k_whole)
  | (refine' nameX_C ?N ?c ?m ?d ?_ ?a ?b; (case a => rfl); (case b => rfl); (case N => k_asm); (case c => rfl); (case m => k_mem); (case d => k_asm); k_whole)
  | (refine' nameX_K ?F ?X ?T ?e ?_ ?a ?b; (case F => k_asm); (case X => k_asm); (case T => k_asm); (case a => rfl); (case b => rfl); (case e => k_is); k_whole))))
  k_with "eval Name" => ((k_here; (with_reducible show wpAny _ _ (eval (PySem.Expr.Name _ _) (compEnvC _ _ _ _)) _ _ _); k_dflt (first
  | (refine LCgL.ld_own (by k_asm) (by k_mem) (by assumption) (by assumption) ?_)
  | (refine' lcf_cell ?N ?c ?m ?d ?_ ?a ?b; (case a => rfl); (case b => rfl); (case N => k_asm); (case c => rfl); (case m => k_mem); (case d => k_asm); k_whole)
  | (refine' lcf_free ?N ?c ?m ?d ?_ ?a ?b; (case a => rfl); (case b => rfl); (case N => k_asm); (case c => rfl); (case m => k_mem); (case d => k_asm); k_whole)
  | (refine LCgL.ld_global (by k_asm) (by k_asm) (by k_asm) (by k_is) ?_))))
  k_with "FinE" => (((unfold LCg.FinE); intro D' h' tk' F' N' oq9'; (try simp only [List.nil_append, List.cons_append] at N'); (try dsimp only)))
  k_with "FinA" => (((unfold LCg.FinA); intro D' h' tk' F' N' oq9'; (try simp only [List.nil_append, List.cons_append] at N'); (try dsimp only)))
  k_with "k_ne" => (((try dsimp only); first
  | (with_reducible assumption)
  | (with_reducible exact Ne.symm (by assumption))
  | (refine' off1_ne ?nh ?nm; (case nh => with_reducible assumption); (case nm => k_mem))
  | (refine' off1_ne' ?nh ?nm; (case nh => with_reducible assumption); (case nm => k_mem))
  | (refine' off3_I ?nh ?nm; (case nh => with_reducible assumption); (case nm => k_mem))
  | (refine' off3_C ?nh ?nm; (case nh => with_reducible assumption); (case nm => k_mem))
  | (refine' off3_D ?nh ?nm; (case nh => with_reducible assumption); (case nm => k_mem))
  | (refine' off3_I' ?nh ?nm; (case nh => with_reducible assumption); (case nm => k_mem))
  | (refine' off3_C' ?nh ?nm; (case nh => with_reducible assumption); (case nm => k_mem))
  | (refine' off3_D' ?nh ?nm; (case nh => with_reducible assumption); (case nm => k_mem))
  | (refine' two_ne ?nh ?nm; (case nh => with_reducible assumption); (case nm => tb_start))
  | (refine' two_ne' ?nh ?nm; (case nh => with_reducible assumption); (case nm => tb_start))
  | (refine neN ?_; lia)))
  k_with "tb_start" => (first | (refine' Two.head ?th; (case th => k_mem)) | (refine' Two.tail ?tw; (case tw => tb_start)))
  k_with "call builtin:list.append" => ((k_here; (with_reducible show wpAny _ _ (PySem.call (Value.builtin _) [Value.ref _, _]) _ _ _); k_dflt (refine append_lit (by k_asm) (by k_asm) (by kl_lit) (by k_upd) (by kl_room) ?_); kl_rest))
  k_with "subscriptTail" => ((k_here; (with_reducible show wpAny _ _ (subscriptTail _ _ (Value.ref _) (Value.int _ _)) _ _ _); k_dflt (refine item_N (by k_asm) (by k_mem) (by decide) (by decide) rfl ?_ (by with_unfolding_all rfl))))
  k_with "subscriptTail Name Name ref int" => ((walk_at "subscriptTail"))
  k_with "subscriptTail Name Constant ref int" => ((walk_at "subscriptTail"))
  k_with "getItem ref int" => ((k_here; k_dflt (refine getItem_N (by k_asm) (by k_mem) (by decide) (by decide) rfl ?_)))
  k_with "getMethod ref" => ((k_here; (with_reducible show wpAny _ _ (getMethod (Value.ref _) (PySem.Str.ofString "read") _) _ _ _); k_dflt (refine kmu_own (by k_asm) (by k_asm) (by k_inst) (by k_is) (by k_is) ?_)))
  k_with "And" => (((with_reducible show FnAt _ _ ∧ _); refine ⟨FnAt.of (by k_asm) (by k_mem), ?_⟩; (try dsimp only [List.nil_append, List.cons_append])))
  k_with "k_mem" => (first | exact List.Mem.head _ | exact mem1 | exact mem2 | exact mem3 | exact mem4 | exact mem5 | exact mem6 | exact mem7 | (refine' mem8 ?_; k_mem))
  k_with "lcg_sub" => (first | exact sub_nil | (refine sub_cons (by k_mem) ?_; lcg_sub))
  k_with "kpt_turns" => (first | exact Take.head | exact tk1 | exact tk2 | exact tk3 | (refine' tk4 ?tk; (case tk => kpt_turns)))
  k_with "tb_rel" => (first | exact Pick.nil | (refine' Pick.cons ?pt ?pk; (case pt => kpt_turns); (case pk => tb_rel)))
  k_with "ktm_same2" => (first | exact True.intro | (refine off1_cons (by k_ne) ?_; ktm_same2))
  k_with "ktr_rel" => (first | exact True.intro | (refine And.intro (by ktm_same2) ?_; ktr_rel))
  k_with "ktr_room" => (first | decide | ((try simp only [depth_under_make, depth_under_kw, depth_in1, depth_deeper, depth_caller] at *); lia))
  k_with "truthy ref" => ((k_here; (with_reducible show wpAny _ _ (truthy (Value.ref _)) _ _ _); k_dflt (first
  | (refine truthy_cons (by k_asm) (by k_mem) (by with_reducible assumption) ?_)
  | (refine truthy_nil (by k_asm) (by k_mem) ?_))))
  k_with "call builtin:list.pop" => ((k_here; (with_reducible show wpAny _ _ (PySem.call (Value.builtin _) [Value.ref _, Value.int 0 _]) _ _ _); k_dflt (refine pop0_cons (by k_asm) (by k_asm) (by k_upd) (by with_reducible assumption) ?_); kl_rest))
  k_with "execs cons" => ((k_here; k_fold))
  exact True.intro

theorem chr_let {prog : Program} {w : World} {A : Around} {E : Value → Shared → Prop} {s : Shared} {n m k : Int} {t : Tok} {Q : Value → Shared → Prop} (h0 : 0 ≤ k) (h1 : k ≤ 10)
    (h : Q (.str ⟨[(lettr n + m.fmod 22 + k).toNat].toArray⟩ s.toks) { s with toks := s.toks + 1 }) : wpAny (model prog w) A (PySem.call (.builtin "chr") [.int (lettr n + m.fmod 22 + k) t]) Q E s := by
  have a1 := lettr_lo n
  have a2 := lettr_hi n
  have a3 := Int.fmod_nonneg_of_pos m (show (0:Int) < 22 by decide)
  have a4 := Int.fmod_lt_of_pos m (show (0:Int) < 22 by decide)
  exact chr_tx (by lia) (by lia) h
/-- a letter's code, by its place -/
noncomputable def ltrN (x look : Int) (j : Nat) : Nat := (lettr ((x.fdiv (pw (j : Int))).fmod 2) + look.fmod 22 + (j : Int)).toNat
/-- the letters of a word -/
noncomputable def letters (x look : Int) : List (List Nat) := [[ltrN x look 0], [ltrN x look 1], [ltrN x look 2], [ltrN x look 3], [ltrN x look 4]]
theorem letters_eq (x look : Int) : letters x look = [[(lettr ((x.fdiv 1).fmod 2) + look.fmod 22 + 0).toNat], [(lettr ((x.fdiv 2).fmod 2) + look.fmod 22 + 1).toNat], [(lettr ((x.fdiv 4).fmod 2) + look.fmod 22 + 2).toNat], [(lettr ((x.fdiv 8).fmod 2) + look.fmod 22 + 3).toNat], [(lettr ((x.fdiv 16).fmod 2) + look.fmod 22 + 4).toNat]] := by
  unfold letters ltrN
  rw [show pw ((0 : Nat) : Int) = 1 from pw_eq _, show pw ((1 : Nat) : Int) = 2 from pw_eq _, show pw ((2 : Nat) : Int) = 4 from pw_eq _, show pw ((3 : Nat) : Int) = 8 from pw_eq _, show pw ((4 : Nat) : Int) = 16 from pw_eq _]
  rfl
noncomputable def spellL (x look : Int) : List (List Nat) := (letters x look).take ((look.fdiv 132).fmod 6).toNat ++ [strange ((look.fdiv 22).fmod 6)] :: (letters x look).drop ((look.fdiv 132).fmod 6).toNat
noncomputable def spell (x look : Int) : List Nat := (spellL x look).flatten
theorem spell_strs {x look : Int} {t0 t1 t2 t3 t4 t5 : Tok} :
    StrsAre (List.take ((look.fdiv 132).fmod 6).toNat [.str (tx [ltrN x look 0]) t0, .str (tx [ltrN x look 1]) t1, .str (tx [ltrN x look 2]) t2, .str (tx [ltrN x look 3]) t3, .str (tx [ltrN x look 4]) t4] ++ .str ⟨[strange ((look.fdiv 22).fmod 6)].toArray⟩ t5 ::
      List.drop ((look.fdiv 132).fmod 6).toNat [.str (tx [ltrN x look 0]) t0, .str (tx [ltrN x look 1]) t1, .str (tx [ltrN x look 2]) t2, .str (tx [ltrN x look 3]) t3, .str (tx [ltrN x look 4]) t4]) ((spellL x look).map tx) := by
  unfold spellL
  rw [List.map_append, List.map_cons, List.map_take, List.map_drop]
  exact strs_insert (.cons _ _ (.cons _ _ (.cons _ _ (.cons _ _ (.cons _ _ .nil))))) _
theorem spell_length (x look : Int) : (spell x look).length = 6 := by
  unfold spell spellL
  have a3 := Int.fmod_nonneg_of_pos (look.fdiv 132) (show (0:Int) < 6 by decide)
  have a4 := Int.fmod_lt_of_pos (look.fdiv 132) (show (0:Int) < 6 by decide)
  generalize (look.fdiv 132).fmod 6 = p at *
  have := lt6i a3 a4
  rcases this with rfl | rfl | rfl | rfl | rfl | rfl <;> rfl
theorem words1_spelled : True := by
  k_with "eval IfExp Compare Constant Constant" => ((k_here; (refine ifexp_one ?_)))
  k_with "call builtin:chr" => ((k_here; (refine chr_let (by lia) (by lia) ?_)))
  k_with "subscriptTail Constant str BinOp str int" => ((k_here; (refine strange_item (Int.fmod_nonneg_of_pos _ (by decide)) (Int.fmod_lt_of_pos _ (by decide)) ?_)))
  k_with "call builtin:list.insert" => ((k_here; (refine insert_sym (by k_asm) (by k_asm) (by k_updF) (Int.fmod_nonneg_of_pos _ (by decide)) (by (show _ ≤ (5 : Int); exact Int.le_of_lt_add_one (show _ < (6 : Int) from Int.fmod_lt_of_pos _ (by decide)))) (Nat.le_of_ble_eq_true rfl) ?_); (intro h' F' N'; (try dsimp only at N'))))
  k_with "call builtin:str.join" => ((k_here; (refine join_strs (ls := spellL _ _) (by k_asm) (by k_mem) spell_strs (Nat.le_trans (Nat.le_of_eq (spell_length _ _)) (by decide)) ?_); intro _ _))
  exact True.intro

theorem div_pw {prog : Program} {w : World} {A : Around} {E : Value → Shared → Prop} {s : Shared} {a n : Int} {t u : Tok} {Q : Value → Shared → Prop} (h0 : 0 ≤ n) (h4 : n ≤ 4) (h : Q (.int (a.fdiv (pw n)) s.toks) { s with toks := s.toks + 1 }) :
    wpAny (model prog w) A (binaryOp .FloorDiv (.int a t) (.int (pw n) u)) Q E s := by
  rw [pw_eq] at h ⊢
  rcases le4i h0 h4 with rfl | rfl | rfl | rfl | rfl
  · exact floordiv_int (b := 1) (by decide) h (Or.inl (PyProof.noPylong_of_log2 (by decide +kernel)))
  · exact floordiv_int (b := 2) (by decide) h (Or.inl (PyProof.noPylong_of_log2 (by decide +kernel)))
  · exact floordiv_int (b := 4) (by decide) h (Or.inl (PyProof.noPylong_of_log2 (by decide +kernel)))
  · exact floordiv_int (b := 8) (by decide) h (Or.inl (PyProof.noPylong_of_log2 (by decide +kernel)))
  · exact floordiv_int (b := 16) (by decide) h (Or.inl (PyProof.noPylong_of_log2 (by decide +kernel)))
/-- ahead of each letter -/
inductive InvL (g : Heap) (s : Shared) (x look : Int) (L I D : Addr) (tx' tl : Tok) : Nat → Shared → Prop
  | mk (i vs nn h' tk m) : i ≤ 5 → List.length vs = i → (∀ j, j < i → ∃ t, vs[j]? = some (Value.str (tx [ltrN x look j]) t)) → News g L h' [(I, rngIt ((i : Nat) : Int) (5 - i)), (D, listOf vs.toArray nn)] →
    Fr g L h' (frm [(PySem.Str.ofString "signs", .ref D), (PySem.Str.ofString "x", .int x tx'), (PySem.Str.ofString "look", .int look tl)] m) → InvL g s x look L I D tx' tl (5 - i) { s with heap := h', toks := tk }
theorem ltrs_snoc {F : Nat → Nat} {ys : List Value} {i : Nat} {t : Tok} (hl : ys.length = i) (h : ∀ k, k < i → ∃ t, ys[k]? = some (Value.str (tx [F k]) t)) : ∀ k, k < i + 1 → ∃ u, (ys ++ [Value.str (tx [F i]) t])[k]? = some (Value.str (tx [F k]) u) := fun k hk => by
  by_cases e : k = i
  · subst e
    exact ⟨t, by rw [List.getElem?_append_right (by lia), hl, Nat.sub_self]; rfl⟩
  · obtain ⟨u, e'⟩ := h k (by lia)
    exact ⟨u, by rw [List.getElem?_append_left (by lia)]; exact e'⟩
theorem words2_spelled : True := by
  k_with "exec For Name Call cons nil" => ((k_here; with_unfolding_all refine For_cit ?_))
  k_with "pI" => ((k_here; k_dflt (refine rng_iter (hk := (show (5:Int) = 0 + ((5:Nat):Int) from rfl)) (h := ?_)); intros))
  k_with "pyNext ref" => ((k_here; k_dflt (first | refine rng_some (h := ?_) | refine rng_none (h := ?_)); intros))
  k_with "call builtin:list.append" => ((k_here; (with_reducible show wpAny _ _ (PySem.call (Value.builtin _) [Value.ref _, _]) _ _ _); k_dflt (refine append_lit (by k_asm) (by k_asm) rfl (by k_upd) (by rw [sizeLine_eq, List.size_toArray]; lia) ?_); kl_rest))
  k_with "binaryOp FloorDiv int int" => ((k_here; with_reducible refine div_pw (by assumption) (by assumption) ?_))
  exact True.intro

set_option maxHeartbeats 2000000 in
theorem spelled_spec (w : World) (x look : Int) (tx' tl : Tok) : Spec w 161 1 [.int x tx', .int look tl] [] (fun v news => news = [] ∧ ∃ t, v = .str (tx (spell x look)) t) := by
  unfold Spec
  w_top off
  k_fill
  intro mean mg mb p loose dp un gd fr base g s R B X T hsz H hdp hu hret
  k_dflt (refine enter (binds := [("x", .int x tx'), ("look", .int look tl)]) (by assumption) (by assumption) (by assumption) (by assumption) (by assumption) (by k_is) (by k_is) (by k_room) (BindsTo.of_eq rfl) (locs rfl) ?_ rfl rfl rfl (by decide))
  intro L' h' F' N' l1
  (have offK' := off1_of (fun r hr => Nat.ne_of_lt (l1 r hr)))
  (try (replace l1 := allLt_of l1; simp only [AllLt, and_true] at l1))
  (try dsimp only [List.length_cons, List.length_nil, List.reverse_cons, List.reverse_nil, List.nil_append, List.cons_append])
  (try k_fold)
  repeat' (first | (k_unfold; (try dsimp only)) | (k_end; wrow_close) | walk1 | (dsimp only; walk1) | (dsimp only; k_unfold; (try dsimp only)) | (leave1; walk_say "STEP leave1"; (try dsimp only)) | fail "no step")
  rename Fr _ _ _ _ => oldF
  rename News _ _ _ _ => oldN
  refine' Turns.mk (InvL g s x look _ _ _ tx' tl) 5 ⟨?h0, ?step⟩
  case h0 =>
    refine' InvL.mk 0 [] _ _ _ _ (by decide) rfl (fun j hj => absurd hj (Nat.not_lt_zero j)) (News.sub oldN ?nw) (Fr.front oldF _ ?fr)
    case nw => lcg_sub
    case fr => exact ⟨rfl, rfl, rfl, trivial⟩
  case step =>
    clear oldF oldN
    intro k s' hI; induction hI; rename_i i vs nn h' tk m hi hl hv N2 F2
    rcases Nat.lt_or_ge i 5 with hlt | hge
    · obtain ⟨r, hr⟩ : ∃ r, 5 - i = r + 1 := ⟨5 - i - 1, by lia⟩
      rw [hr] at N2
      have q0 : (0 : Int) ≤ (i : Int) := Int.natCast_nonneg i
      have q4 : (i : Int) ≤ 4 := by lia
      repeat' (first | (k_unfold; (try dsimp only)) | (k_end; wrow_close) | walk1 | (dsimp only; walk1) | (dsimp only; k_unfold; (try dsimp only)) | (leave1; walk_say "STEP leave1"; (try dsimp only)) | fail "no step")
      (try dsimp only)
      have hr2 : 5 - (i + 1) = r := by lia
      refine' Again.mk (5 - (i + 1)) ?lt (InvL.mk (i + 1) _ _ _ _ _ ?i1 ?hl (ltrs_snoc hl hv) (News.sub (by assumption) ?nw) (Fr.front (by assumption) _ ⟨rfl, rfl, rfl, trivial⟩))
      case lt => lia
      case i1 => lia
      case hl => rw [List.length_append, hl]; rfl
      case nw => rw [hr2]; lcg_sub
    · obtain rfl : i = 5 := by lia
      rw [Nat.sub_self] at N2
      obtain ⟨t0, t1, t2, t3, t4, rfl⟩ := five_by (F := fun j t => Value.str (tx [ltrN x look j]) t) hl hv
      clear hv hl
      repeat' (first | (k_unfold; (try dsimp only)) | (k_end; wrow_close) | walk1 | (dsimp only; walk1) | (dsimp only; k_unfold; (try dsimp only)) | (leave1; walk_say "STEP leave1"; (try dsimp only)) | fail "no step")
      (try dsimp only)
      exact spec_end hret (by assumption) (by assumption) [] ⟨rfl, _, rfl⟩ (fun _ h => nomatch h)

end

section
theorem words_lev : True := by
  k_with_none
  k_with "k_room" => (first | decide | ((try simp only [depth_under_make, depth_under_kw, depth_in1, depth_deeper, depth_caller]); lia))
  k_with "eval ListComp" => ((k_here; k_dflt (refine LCg.ListComp_U (F₀ := by k_asm) (by with_unfolding_all rfl) (by decide) (by rfl) (by decide) (by rfl) ?_); k_dflt lcg_toSrc))
  k_with "exec Assign cons ListComp" => ((k_here; k_dflt (refine LCg.Assign_ListComp_U (F₀ := by k_asm) (by rfl) (by with_unfolding_all rfl) (by with_unfolding_all rfl) (by decide) (by rfl) (by decide) (by rfl) (by rfl) (by rfl) ?_); k_dflt lcg_toSrc))
  k_with "CompSrc" => ((k_here; k_dflt (first | (refine LCg.CompSrc.ledger (by rfl) (by k_asm) (by k_asm) (by k_mem) (by first | exact Nat.le_of_ble_eq_true rfl | size_fits) ?_; intro g'; lcg_lit) | (refine LCg.CompSrc.range (by rfl) (by k_asm) (by k_asm) (by assumption) (by first | decide | rfl) (by first | rfl | decide) (by first | exact Nat.le_of_ble_eq_true rfl | size_fits) ?_; intro g'; lcg_lit))))
  k_with "binaryOp Pow int int" => ((k_here; with_reducible refine pow_pw ?kb1 ?kb2 ?_; (case kb1 => assumption); (case kb2 => assumption)))
  k_with "binaryOp Mult int int" => ((k_here; with_reducible refine mul_pw ?kb1 ?kb2 ?_; (case kb1 => assumption); (case kb2 => assumption)))
  k_with "binaryOp BitXor int int" => ((k_here; with_reducible refine xor_xr ?_))
  k_with "CompRest" => ((with_unfolding_all first | (refine LCg.CompRest.succ ?_; intro v' I' oI' C' oC' D' m' h' tk' E' hv' hC' hx' F' N' off' ne'; (first | lcg_open hv' | (obtain ⟨t9', hv9'⟩ := hv'; subst hv9')); (obtain ⟨neIC', neID', neCD'⟩ := ne')) | refine LCg.CompRest.zero ?_))
  k_with "lcg_off" => (with_reducible assumption)
  k_with "CompEnd" => (lcg_end)
  k_with "eval Name" => ((k_here; k_dflt (first
  | (refine' nameX_L ?F ?v ?_ ?a ?b; (case F => k_asm); (case a => rfl); (case b => rfl); (case v => rfl); k_whole)
  | (refine' nameX_C ?N ?c ?m ?d ?_ ?a ?b; (case a => rfl); (case b => rfl); (case N => k_asm); (case c => rfl); (case m => k_mem); (case d => k_asm); k_whole)
  | (refine' nameX_K ?F ?X ?T ?e ?_ ?a ?b; (case F => k_asm); (case X => k_asm); (case T => k_asm); (case a => rfl); (case b => rfl); (case e => k_is); k_whole))))
  k_with "eval Name" => ((k_here; (with_reducible show wpAny _ _ (eval (PySem.Expr.Name _ _) (compEnvC _ _ _ _)) _ _ _); k_dflt (first
  | (refine LCgL.ld_own (by k_asm) (by k_mem) (by assumption) (by assumption) ?_)
  | (refine' lcf_cell ?N ?c ?m ?d ?_ ?a ?b; (case a => rfl); (case b => rfl); (case N => k_asm); (case c => rfl); (case m => k_mem); (case d => k_asm); k_whole)
  | (refine' lcf_free ?N ?c ?m ?d ?_ ?a ?b; (case a => rfl); (case b => rfl); (case N => k_asm); (case c => rfl); (case m => k_mem); (case d => k_asm); k_whole)
  | (refine LCgL.ld_global (by k_asm) (by k_asm) (by k_asm) (by k_is) ?_))))
  k_with "FinE" => (((unfold LCg.FinE); intro D' h' tk' F' N' oq9'; (try simp only [List.nil_append, List.cons_append] at N'); (try dsimp only)))
  k_with "FinA" => (((unfold LCg.FinA); intro D' h' tk' F' N' oq9'; (try simp only [List.nil_append, List.cons_append] at N'); (try dsimp only)))
  k_with "k_ne" => (((try dsimp only); first
  | (with_reducible assumption)
  | (with_reducible exact Ne.symm (by assumption))
  | (refine' off1_ne ?nh ?nm; (case nh => with_reducible assumption); (case nm => k_mem))
  | (refine' off1_ne' ?nh ?nm; (case nh => with_reducible assumption); (case nm => k_mem))
  | (refine' off3_I ?nh ?nm; (case nh => with_reducible assumption); (case nm => k_mem))
  | (refine' off3_C ?nh ?nm; (case nh => with_reducible assumption); (case nm => k_mem))
  | (refine' off3_D ?nh ?nm; (case nh => with_reducible assumption); (case nm => k_mem))
  | (refine' off3_I' ?nh ?nm; (case nh => with_reducible assumption); (case nm => k_mem))
  | (refine' off3_C' ?nh ?nm; (case nh => with_reducible assumption); (case nm => k_mem))
  | (refine' off3_D' ?nh ?nm; (case nh => with_reducible assumption); (case nm => k_mem))
  | (refine' two_ne ?nh ?nm; (case nh => with_reducible assumption); (case nm => tb_start))
  | (refine' two_ne' ?nh ?nm; (case nh => with_reducible assumption); (case nm => tb_start))
  | (refine neN ?_; lia)))
  k_with "tb_start" => (first | (refine' Two.head ?th; (case th => k_mem)) | (refine' Two.tail ?tw; (case tw => tb_start)))
  k_with "call builtin:list.append" => ((k_here; (with_reducible show wpAny _ _ (PySem.call (Value.builtin _) [Value.ref _, _]) _ _ _); k_dflt (refine append_lit (by k_asm) (by k_asm) (by kl_lit) (by k_upd) (by kl_room) ?_); kl_rest))
  k_with "subscriptTail" => ((k_here; (with_reducible show wpAny _ _ (subscriptTail _ _ (Value.ref _) (Value.int _ _)) _ _ _); k_dflt (refine item_N (by k_asm) (by k_mem) (by decide) (by decide) rfl ?_ (by with_unfolding_all rfl))))
  k_with "subscriptTail Name Name ref int" => ((walk_at "subscriptTail"))
  k_with "subscriptTail Name Constant ref int" => ((walk_at "subscriptTail"))
  k_with "getItem ref int" => ((k_here; k_dflt (refine getItem_N (by k_asm) (by k_mem) (by decide) (by decide) rfl ?_)))
  k_with "getMethod ref" => ((k_here; (with_reducible show wpAny _ _ (getMethod (Value.ref _) (PySem.Str.ofString "read") _) _ _ _); k_dflt (refine kmu_own (by k_asm) (by k_asm) (by k_inst) (by k_is) (by k_is) ?_)))
  k_with "And" => (((with_reducible show FnAt _ _ ∧ _); refine ⟨FnAt.of (by k_asm) (by k_mem), ?_⟩; (try dsimp only [List.nil_append, List.cons_append])))
  k_with "k_mem" => (first | exact List.Mem.head _ | exact mem1 | exact mem2 | exact mem3 | exact mem4 | exact mem5 | exact mem6 | exact mem7 | (refine' mem8 ?_; k_mem))
  k_with "lcg_sub" => (first | exact sub_nil | (refine sub_cons (by k_mem) ?_; lcg_sub))
  k_with "kpt_turns" => (first | exact Take.head | exact tk1 | exact tk2 | exact tk3 | (refine' tk4 ?tk; (case tk => kpt_turns)))
  k_with "tb_rel" => (first | exact Pick.nil | (refine' Pick.cons ?pt ?pk; (case pt => kpt_turns); (case pk => tb_rel)))
  k_with "ktm_same2" => (first | exact True.intro | (refine off1_cons (by k_ne) ?_; ktm_same2))
  k_with "ktr_rel" => (first | exact True.intro | (refine And.intro (by ktm_same2) ?_; ktr_rel))
  k_with "ktr_room" => (first | decide | ((try simp only [depth_under_make, depth_under_kw, depth_in1, depth_deeper, depth_caller] at *); lia))
  k_with "truthy ref" => ((k_here; (with_reducible show wpAny _ _ (truthy (Value.ref _)) _ _ _); k_dflt (first
  | (refine truthy_cons (by k_asm) (by k_mem) (by with_reducible assumption) ?_)
  | (refine truthy_nil (by k_asm) (by k_mem) ?_))))
  k_with "call builtin:list.pop" => ((k_here; (with_reducible show wpAny _ _ (PySem.call (Value.builtin _) [Value.ref _, Value.int 0 _]) _ _ _); k_dflt (refine pop0_cons (by k_asm) (by k_asm) (by k_upd) (by with_reducible assumption) ?_); kl_rest))
  k_with "execs cons" => ((k_here; k_fold))
  exact True.intro

theorem words1_lev : True := by
  k_with "exec While BoolOp" => ((k_here; (refine While_turns ?_ (by passes_own))))
  k_with "truthy str" => ((k_here; refine truthy_tx (by (try simp only [List.length_drop, List.length_take]); lia) (by (try simp only [List.length_drop, List.length_take]); lia) ?_))
  k_with "subscriptTail Name Slice str ref" => ((k_here; (with_reducible show wpAny _ _ (subscriptTail _ (Expr.Slice (some _) none none _) _ _) _ _ _); (refine sl_from (s := ⟨_, _, _, _, _⟩) (by k_asm) (by k_asm) (by lia) (by lia) ?_); intro _ _ _ _ _; (try dsimp only)))
  k_with "eval Subscript" => ((k_here; (with_reducible show wpAny _ _ (eval (Expr.Subscript (Expr.Name _ _) (Expr.Slice none (some (Expr.BoolOp _ _ _)) none _) _) _) _ _ _); (refine sub_post (by intro k' Q' hq'; walk1; exact hq') (by intro k' Q' hq'; walk1; exact hq') (by k_asm) (by k_asm) (by lia) (by lia) ?_); intro _ _ _ _ _; (try dsimp only)))
  k_with "subscriptTail Name Name str int" => ((k_here; (refine it_pos (by lia) (by lia) ?_)))
  k_with "subscriptTail Name BinOp str int" => ((k_here; (refine it_neg (by lia) (by lia) ?_)))
  k_with "call builtin:len" => ((k_here; (refine len_tx (by with_reducible assumption) (by lia) ?_)))
  k_with "call type:list" => ((k_here; (refine list_rng2 (by rfl) (by k_asm) (by k_asm) (by assumption) (by lia) ?_); (intro D' h' tk' o' R' F' N' l1; (try k_lt l1))))
  k_with "exec For Name Call cons nil" => ((k_here; with_unfolding_all refine For_cit ?_))
  k_with "pI" => ((k_here; k_dflt (refine rng_iter (h := ?_)); intros))
  k_with "pyNext ref" => ((k_here; k_dflt (first | refine rng_some (h := ?_) | refine rng_none (h := ?_)); intros))
  k_with "subscriptTail Name Name ref int" => ((k_here; (refine row_get (by k_asm) (by k_mem) (by assumption) (by lia) (by lia) ?_); intro _))
  k_with "setItem ref int" => ((k_here; (refine row_set (by k_asm) (by k_asm) (by k_updF) (by assumption) (by lia) (by lia) ?_); (intro h' o' R' F' N'; (try dsimp only at N'))))
  k_with "call ref" => ((k_here; (with_reducible show wpAny _ _ (PySem.call (Value.ref 21) _) _ _ _); k_dflt (refine use1 (cost_spec _ _ _ _ _ (Nat.le_of_eq (tx_length _)) (Nat.le_of_eq (tx_length _))) ?_); intros))
  exact True.intro

/-- ahead of each turn where the fore is compared -/
inductive InvA (g : Heap) (s : Shared) (a b : List Nat) (d : Nat) (L : Addr) (t1 t2 t3 : Tok) : Nat → Shared → Prop
  | mk (i h' tk m t) : (i ≤ d) → (∀ j, j < i → at' a j = at' b j) → (News g L h' []) →
    (Fr g L h' (frm [(PySem.Str.ofString "pre", .int (i : Int) t), (PySem.Str.ofString "a", .str (tx a) t1), (PySem.Str.ofString "b", .str (tx b) t2), (PySem.Str.ofString "max_cost", .int 5 t3)] m)) → InvA g s a b d L t1 t2 t3 (a.length - i) { s with heap := h', toks := tk }
/-- ahead of each turn where the rear is -/
inductive InvB (g : Heap) (s : Shared) (A C : List Nat) (L : Addr) (t3 : Tok) : Nat → Shared → Prop
  | mk (q h' tk m t ta tb) : (q < A.length) → (∀ j, j < q → at' A (A.length - 1 - j) = at' C (A.length - 1 - j)) → (News g L h' []) →
    (Fr g L h' (frm [(PySem.Str.ofString "post", .int (-(q : Int)) t), (PySem.Str.ofString "a", .str (tx A) ta), (PySem.Str.ofString "b", .str (tx C) tb), (PySem.Str.ofString "max_cost", .int 5 t3)] m)) → InvB g s A C L t3 (A.length - q) { s with heap := h', toks := tk }
/-- ahead of each turn of the outer loop -/
inductive InvO (g : Heap) (s : Shared) (A2 C2 : List Nat) (M : Nat) (L I D : Addr) : Nat → Shared → Prop
  | mk (i h' tk m o tr ta tb t3 res) : (i ≤ M) → (RowO o M (fun j => DD A2 C2 i (j + 1))) → ((i = 0 ∨ res = DD A2 C2 i M)) → (News g L h' [(I, rngIt (i : Int) (M - i)), (D, o)]) → (Fr g L h' (frm [(PySem.Str.ofString "row", .ref D), (PySem.Str.ofString "result", .int res tr), (PySem.Str.ofString "a", .str (tx A2) ta), (PySem.Str.ofString "b", .str (tx C2) tb), (PySem.Str.ofString "max_cost", .int 5 t3)] m)) →
    InvO g s A2 C2 M L I D (M - i) { s with heap := h', toks := tk }
/-- ahead of each turn of the inner one -/
inductive InvI (g : Heap) (s : Shared) (A2 C2 : List Nat) (M i : Nat) (L I J D : Addr) (oI : Obj) (tc : Tok) : Nat → Shared → Prop
  | mk (j h' tk m o tr td tm ta tb t3 res dist mn) : (j ≤ M) → (RowO o M (fun c => if c < j then DD A2 C2 (i + 1) (c + 1) else DD A2 C2 i (c + 1))) → ((res = if j = 0 then 2 * (i : Int) else DD A2 C2 (i + 1) j)) → (dist = DD A2 C2 i j) → ((i < j → mn ≤ psum A2 C2 (i + 1))) → (News g L h' [(J, rngIt (j : Int) (M - j)), (I, oI), (D, o)]) → (Fr g L h' (frm [(PySem.Str.ofString "row", .ref D), (PySem.Str.ofString "result", .int res tr), (PySem.Str.ofString "distance", .int dist td), (PySem.Str.ofString "minimum", .int mn tm), (PySem.Str.ofString "bchar", .str (tx [at' C2 i]) tc), (PySem.Str.ofString "a", .str (tx A2) ta), (PySem.Str.ofString "b", .str (tx C2) tb), (PySem.Str.ofString "max_cost", .int 5 t3)] m)) →
    InvI g s A2 C2 M i L I J D oI tc (M - j) { s with heap := h', toks := tk }
set_option maxHeartbeats 2000000 in
theorem lev_spec (w : World) (a b : List Nat) (t1 t2 t3 : Tok) (hN : Near a b) (hl : a.length ≤ 40) (h5 : psum a b a.length ≤ 5) :
    Spec w 28 3 [.str (tx a) t1, .str (tx b) t2, .int 5 t3] [] (fun v news => news = [] ∧ ∃ t, v = .int (psum a b a.length) t) := by
  unfold Spec
  w_top off
  k_fill
  intro mean mg mb p loose dp un gd fr base g s R B X T hsz H hdp hu hret
  have hlen := hN.len
  k_dflt (refine enter (binds := [("a", .str (tx a) t1), ("b", .str (tx b) t2), ("max_cost", .int 5 t3)]) (by assumption) (by assumption) (by assumption) (by assumption) (by assumption) (by k_is) (by k_is) (by k_room) (BindsTo.of_eq rfl) (locs rfl) ?_ rfl rfl rfl (by decide))
  intro L' h' F' N' l1
  (have offK' := off1_of (fun r hr => Nat.ne_of_lt (l1 r hr)))
  (try (replace l1 := allLt_of l1; simp only [AllLt, and_true] at l1))
  (try dsimp only [List.length_cons, List.length_nil, List.reverse_cons, List.reverse_nil, List.nil_append, List.cons_append])
  (try k_fold)
  repeat' (first | (k_unfold; (try dsimp only)) | (k_end; wrow_close) | walk1 | (dsimp only; walk1) | (dsimp only; k_unfold; (try dsimp only)) | (leave1; walk_say "STEP leave1"; (try dsimp only)) | fail "no step")
  · have e : a = b := by
      have h : (tx a == tx b) = true := by assumption
      exact tx_inj.mp (beq_iff_eq.mp h)
    subst e
    have z : psum a a a.length = 0 := psum_same fun _ _ => rfl
    exact spec_end hret (by assumption) (by assumption) [] ⟨rfl, _, by rw [z]⟩ (fun _ h => nomatch h)
  have hab : a ≠ b := by
    rintro rfl
    have h : (tx a == tx a) = false := by assumption
    rw [beq_self_eq_true] at h
    cases h
  obtain ⟨d, hd, hdd⟩ := at_diff hlen hab
  refine' Turns.mk (InvA g s a b d _ t1 t2 t3) a.length ⟨?h0, ?step⟩
  case h0 => exact InvA.mk 0 _ _ _ _ (Nat.zero_le _) (fun j hj => absurd hj (Nat.not_lt_zero j)) (by assumption) (Fr.front (by assumption) _ ⟨rfl, rfl, rfl, rfl, trivial⟩)
  case step =>
    rename Fr _ _ _ _ => oldF
    rename News _ _ _ _ => oldN
    clear oldF oldN
    intro k s' hI; induction hI; rename_i i h' tk m t hi hpre N2 F2
    repeat' (first | (k_unfold; (try dsimp only)) | (k_end; wrow_close) | walk1 | (dsimp only; walk1) | (dsimp only; k_unfold; (try dsimp only)) | (leave1; walk_say "STEP leave1"; (try dsimp only)) | fail "no step")
    · have hq : (tx [at' a i] == tx [at' b i]) = true := by assumption
      have e := (eq_signs hq).mp rfl
      have hne : i ≠ d := fun e' => hdd (e' ▸ e)
      (try dsimp only)
      refine' Again.mk (a.length - (i + 1)) ?lt (InvA.mk (i + 1) _ _ _ _ ?i1 ?i2 (by assumption) (Fr.front (by assumption) _ ⟨rfl, rfl, rfl, rfl, trivial⟩))
      case lt => lia
      case i1 => lia
      case i2 =>
        intro j hj
        by_cases e' : j = i
        · subst e'; exact e
        · exact hpre j (by lia)
    · have hq : (tx [at' a i] == tx [at' b i]) = false := by assumption
      have e : at' a i ≠ at' b i := fun e => Bool.false_ne_true ((eq_signs hq).mpr e)
      have hA := hN.drop i
      have hA0 : at' (a.drop i) 0 ≠ at' (b.drop i) 0 := by rw [at_drop, at_drop]; exact e
      have hAn : 0 < (a.drop i).length := by rw [List.length_drop]; lia
      have hAl : (a.drop i).length ≤ 40 := by rw [List.length_drop]; lia
      have hAs : psum (a.drop i) (b.drop i) (a.drop i).length = psum a b a.length := by rw [psum_drop hpre, List.length_drop]; congr 1; lia
      have hAlen := hA.len
      refine' Turns.mk (InvB g s (a.drop i) (b.drop i) _ t3) (a.drop i).length ⟨?h0, ?step⟩
      case h0 => exact InvB.mk 0 _ _ _ _ _ _ hAn (fun j hj => absurd hj (Nat.not_lt_zero j)) (by assumption) (Fr.front (by assumption) _ ⟨rfl, rfl, rfl, rfl, trivial⟩)
      case step =>
        rename Fr _ _ _ _ => oldF
        rename News _ _ _ _ => oldN
        clear oldF oldN
        (try clear F2 N2)
        generalize hAe : a.drop i = A at *
        generalize hBe : b.drop i = C at *
        intro k s' hI; induction hI; rename_i q h' tk m t ta tb hq' hpost N2 F2
        repeat' (first | (k_unfold; (try dsimp only)) | (k_end; wrow_close) | walk1 | (dsimp only; walk1) | (dsimp only; k_unfold; (try dsimp only)) | (leave1; walk_say "STEP leave1"; (try dsimp only)) | fail "no step")
        · have hq : (tx [at' A (A.length - 1 - q)] == tx [at' C (C.length - 1 - q)]) = true := by assumption
          have e := (eq_signs hq).mp rfl
          (try dsimp only)
          have hne : q + 1 < A.length := by
            refine Nat.lt_of_le_of_ne hq' fun e' => hA0 ?_
            rw [show A.length - 1 - q = 0 by lia, show C.length - 1 - q = 0 by lia] at e
            exact e
          refine' Again.mk (A.length - (q + 1)) ?lt (InvB.mk (q + 1) _ _ _ _ _ _ hne ?i2 (by assumption) (Fr.front (by assumption) _ ⟨?po, rfl, rfl, rfl, trivial⟩))
          case lt => lia
          case po => exact congrArg (fun z => some (Value.int z _)) (show (-(q : Int) - 1) = -((q + 1 : Nat) : Int) by lia)
          case i2 =>
            intro j hj
            by_cases e' : j = q
            · subst e'; rw [← hAlen] at e; exact e
            · exact hpost j (by lia)
        · have hB : Near (A.take (A.length - q)) (C.take (C.length - q)) := by rw [← hAlen]; exact hA.take _
          have hBl : (A.take (A.length - q)).length = A.length - q := by rw [List.length_take]; lia
          have hCl : (C.take (C.length - q)).length = A.length - q := by rw [List.length_take]; lia
          have hBs : psum (A.take (A.length - q)) (C.take (C.length - q)) (A.length - q) = psum a b a.length := by
            rw [← hAlen, psum_take _ (Nat.le_refl _), ← hAs]
            exact (psum_tail q (by lia) hpost).symm
          have hm1 : 0 < A.length - q := by lia
          have hm2 : A.length - q ≤ 40 := by lia
          clear hpost hA hA0 hAn hAs hAe hBe
          generalize A.take (A.length - q) = A2 at *
          generalize C.take (C.length - q) = C2 at *
          generalize A.length - q = M at *
          have hps : psum A2 C2 M ≤ 5 := by rw [hBs]; exact h5
          repeat' (first | (k_unfold; (try dsimp only)) | (k_end; wrow_close) | walk1 | (dsimp only; walk1) | (dsimp only; k_unfold; (try dsimp only)) | (leave1; walk_say "STEP leave1"; (try dsimp only)) | fail "no step")
          rename RowO _ _ _ => R0
          rename Fr _ _ _ _ => oldF
          rename News _ _ _ _ => oldN
          refine' Turns.mk (InvO g s A2 C2 M _ _ _) M ⟨?h0, ?step⟩
          case h0 =>
            refine' InvO.mk 0 _ _ _ _ _ _ _ _ _ (Nat.zero_le _) ?r0 (.inl rfl) oldN (Fr.front oldF _ ⟨rfl, rfl, rfl, rfl, rfl, trivial⟩)
            case r0 =>
              have e : (fun j : Nat => DD A2 C2 0 (j + 1)) = fun j : Nat => 2 * ((j : Int) + 1) := by
                funext j
                rw [DD_le (Nat.zero_le _)]
                show 0 + _ = _
                lia
              rw [e]; exact R0
          case step =>
            clear oldF oldN R0
            intro k s' hI; induction hI; rename_i i h' tk m o tr ta tb t3 res hi hR hres N2 F2
            rcases Nat.lt_or_ge i M with hlt | hge
            · obtain ⟨r, hr⟩ : ∃ r, M - i = r + 1 := ⟨M - i - 1, by lia⟩
              rw [hr] at N2
              repeat' (first | (k_unfold; (try dsimp only)) | (k_end; wrow_close) | walk1 | (dsimp only; walk1) | (dsimp only; k_unfold; (try dsimp only)) | (leave1; walk_say "STEP leave1"; (try dsimp only)) | fail "no step")
              rename Fr _ _ _ _ => oldF
              rename News _ _ _ _ => oldN
              refine' Turns.mk (InvI g s A2 C2 M i _ _ _ _ _ _) M ⟨?h0, ?step⟩
              case h0 =>
                refine' InvI.mk 0 _ _ _ _ _ _ _ _ _ _ _ _ _ (Nat.zero_le _) ?r0 ?re ?di (fun h => absurd h (Nat.not_lt_zero i)) oldN (Fr.front oldF _ ⟨rfl, rfl, rfl, rfl, rfl, rfl, rfl, rfl, trivial⟩)
                case r0 => exact hR
                case re => rw [if_pos rfl]; lia
                case di => rw [DD_ge (Nat.zero_le _)]; show _ = 0 + _; lia
              case step =>
                clear oldF oldN hR
                (try clear F2 N2)
                intro k s' hI; induction hI; rename_i j h' tk m o tr td tm ta tb t3 res dist mn hj hR hres' hdist hmn N2 F2
                rcases Nat.lt_or_ge j M with hltj | hgej
                · obtain ⟨r', hr'⟩ : ∃ r', M - j = r' + 1 := ⟨M - j - 1, by lia⟩
                  rw [hr'] at N2
                  repeat' (first | (k_unfold; (try dsimp only)) | (k_end; wrow_close) | walk1 | (dsimp only; walk1) | (dsimp only; k_unfold; (try dsimp only)) | (leave1; walk_say "STEP leave1"; (try dsimp only)) | fail "no step")
                  all_goals (have e := step_val hB (show i < A2.length by lia) (show j < A2.length by lia) hres' hdist)
                  all_goals (rename RowO _ _ _ => hR2)
                  all_goals (rw [row_step e] at hR2)
                  all_goals (simp only [e] at *)
                  · have hr2 : M - (j + 1) = r' := by lia
                    have dg := DD_diag A2 C2 (i + 1)
                    refine' Again.mk (M - (j + 1)) ?lt (InvI.mk (j + 1) _ _ _ _ _ _ _ _ _ _ _ _ _ ?lj hR2 ?re rfl ?mn ?nw (Fr.front (by assumption) _ ⟨rfl, rfl, ?di, rfl, rfl, rfl, rfl, rfl, trivial⟩))
                    case lt => lia
                    case lj => lia
                    case re => rw [if_neg (Nat.succ_ne_zero j)]
                    case di => exact congrArg (fun z => some (Value.int z _)) (if_neg (Nat.lt_irrefl _))
                    case mn =>
                      intro h
                      rcases Nat.lt_or_ge i j with h1 | h1
                      · have := hmn h1
                        lia
                      · obtain rfl : j = i := by lia
                        lia
                    case nw => rw [hr2]; assumption
                  · have hr2 : M - (j + 1) = r' := by lia
                    have dg := DD_diag A2 C2 (i + 1)
                    refine' Again.mk (M - (j + 1)) ?lt (InvI.mk (j + 1) _ _ _ _ _ _ _ _ _ _ _ _ _ ?lj hR2 ?re rfl ?mn ?nw (Fr.front (by assumption) _ ⟨rfl, rfl, ?di, rfl, rfl, rfl, rfl, rfl, trivial⟩))
                    case lt => lia
                    case lj => lia
                    case re => rw [if_neg (Nat.succ_ne_zero j)]
                    case di => exact congrArg (fun z => some (Value.int z _)) (if_neg (Nat.lt_irrefl _))
                    case mn =>
                      intro h
                      rcases Nat.lt_or_ge i j with h1 | h1
                      · have := hmn h1
                        lia
                      · obtain rfl : j = i := by lia
                        lia
                    case nw => rw [hr2]; assumption
                · have hm5 : mn ≤ 5 := by
                    have := hmn (by lia)
                    have := psum_mono (a := A2) (b := C2) (show i + 1 ≤ M by lia)
                    lia
                  obtain rfl : j = M := by lia
                  rw [Nat.sub_self] at N2
                  repeat' (first | (k_unfold; (try dsimp only)) | (k_end; wrow_close) | walk1 | (dsimp only; walk1) | (dsimp only; k_unfold; (try dsimp only)) | (leave1; walk_say "STEP leave1"; (try dsimp only)) | fail "no step")
                  have hr2 : j - (i + 1) = r := by lia
                  refine' Again.mk (j - (i + 1)) ?lt (InvO.mk (i + 1) _ _ _ _ _ _ _ _ _ ?lj ?hR (.inr ?re) ?nw (Fr.front (by assumption) _ ⟨rfl, rfl, rfl, rfl, rfl, trivial⟩))
                  case lt => lia
                  case lj => lia
                  case re => rw [hres', if_neg (by lia)]
                  case nw => rw [hr2]; assumption
                  case hR =>
                    obtain ⟨h1, n, vs, h2, h3, h4⟩ := hR
                    refine ⟨h1, n, vs, h2, h3, fun c hc => ?_⟩
                    have := h4 c hc
                    dsimp only at this
                    rw [if_pos hc] at this
                    exact this
            · obtain rfl : i = M := by lia
              rw [Nat.sub_self] at N2
              have hres2 : res = psum a b a.length := by
                rcases hres with h | h
                · lia
                · rw [h, DD_diag, hBs]
              repeat' (first | (k_unfold; (try dsimp only)) | (k_end; wrow_close) | walk1 | (dsimp only; walk1) | (dsimp only; k_unfold; (try dsimp only)) | (leave1; walk_say "STEP leave1"; (try dsimp only)) | fail "no step")
              (try dsimp only)
              exact spec_end hret (by assumption) (by assumption) [] ⟨rfl, _, by rw [hres2]⟩ (fun _ h => nomatch h)

end

section
theorem Spec.mono {w : World} {f : Addr} {d : Nat} {vs : List Value} {pre : List (Addr × Obj)} {Post Post' : Value → List (Addr × Obj) → Prop} (S : Spec w f d vs pre Post) (h : ∀ v news, Post v news → Post' v news) : Spec w f d vs pre Post' :=
  fun mean mg mb p loose dp un gd fr base g s R B X T hsz H hdp hu hret => S mean mg mb p loose dp un gd fr base g s R B X T hsz H hdp hu fun v news h' tk' hp => hret v news h' tk' (h v news hp)
/-- signs, one a value -/
noncomputable def Sg (vs : List Value) (es : List Nat) : Prop := StrsAre vs (es.map fun c => tx [c])
theorem Sg.nil_inv {vs : List Value} (h : Sg vs []) : vs = [] := by cases h; rfl
theorem Sg.cons_inv {vs : List Value} {c : Nat} {es : List Nat} (h : Sg vs (c :: es)) : ∃ t vs', vs = .str (tx [c]) t :: vs' ∧ Sg vs' es := by
  cases h with | cons y t h => exact ⟨t, _, rfl, h⟩
theorem Sg.append_inv : ∀ {a b : List Nat} {vs : List Value}, Sg vs (a ++ b) → ∃ v1 v2, vs = v1 ++ v2 ∧ Sg v1 a ∧ Sg v2 b
  | [], _, vs, h => ⟨[], vs, rfl, .nil, h⟩
  | c :: a, b, vs, h => by
    obtain ⟨t, vs', rfl, h'⟩ := Sg.cons_inv (es := a ++ b) h
    obtain ⟨v1, v2, rfl, h1, h2⟩ := Sg.append_inv h'
    exact ⟨_ :: v1, v2, rfl, .cons _ _ h1, h2⟩
theorem Sg.len {vs : List Value} {es : List Nat} (h : Sg vs es) : vs.length = es.length := by
  have := h.len_eq
  rw [this, List.length_map]
theorem lit_bs : PySem.Str.ofString "\\" = tx [92] := by decide
theorem lit_q : PySem.Str.ofString "\"" = tx [34] := by decide
theorem lit_nl : PySem.Str.ofString "\n" = tx [10] := by decide
theorem lit_tab : PySem.Str.ofString "\t" = tx [9] := by decide
theorem lit_sp : PySem.Str.ofString " " = tx [32] := by decide
theorem tx1_ne {c d : Nat} (h : c ≠ d) : tx [c] ≠ tx [d] := fun e => h (by simpa using tx_inj.mp e)
theorem encq_of : ∀ {cs : List Nat} {vs : List Value}, Sg vs (cs.map esc).flatten → EncQ (cs.map fun c => tx [c]) vs
  | [], vs, h => by rw [Sg.nil_inv h]; exact .nil
  | c :: cs, vs, h => by
    by_cases e : c = 34 ∨ c = 92
    · rw [List.map_cons, List.flatten_cons, show esc c = [92, c] from if_pos e] at h
      obtain ⟨t, v1, rfl, h1⟩ := Sg.cons_inv (es := c :: (cs.map esc).flatten) h
      obtain ⟨t', v2, rfl, h2⟩ := Sg.cons_inv h1
      rw [← lit_bs]
      exact .esc (tx_length _) (encq_of h2)
    · rw [List.map_cons, List.flatten_cons, show esc c = [c] from if_neg e] at h
      obtain ⟨t, v1, rfl, h1⟩ := Sg.cons_inv (es := (cs.map esc).flatten) h
      refine .raw (tx_length _) ?_ ?_ (encq_of h1)
      · rw [lit_q]; exact tx1_ne fun q => e (.inl q)
      · rw [lit_bs]; exact tx1_ne fun q => e (.inr q)
theorem encw_of : ∀ {cs : List Nat} {vs : List Value}, Sg vs (cs.map bs).flatten → EncW (cs.map fun c => tx [c]) vs
  | [], vs, h => by rw [Sg.nil_inv h]; exact .nil
  | c :: cs, vs, h => by
    rw [List.map_cons, List.flatten_cons, show bs c = [92, c] from rfl] at h
    obtain ⟨t, v1, rfl, h1⟩ := Sg.cons_inv (es := c :: (cs.map bs).flatten) h
    obtain ⟨t', v2, rfl, h2⟩ := Sg.cons_inv h1
    rw [← lit_bs]
    exact .esc (tx_length _) (encw_of h2)
theorem catS_tx (a : List Nat) : ∀ cs : List Nat, catS (tx a) (cs.map fun c => tx [c]) = tx (a ++ cs) := by
  intro cs
  induction cs generalizing a with
  | nil => rw [List.append_nil]; rfl
  | cons c cs ih =>
    show catS (tx a ++ tx [c]) _ = _
    rw [tx_append, ih, List.append_assoc]; rfl
theorem bump_tx (c : Nat) (ln : Int) : bump (tx [c]) ln = ln + (([c].count 10 : Nat) : Int) := by
  unfold bump
  rw [lit_nl]
  by_cases e : c = 10
  · subst e; rw [if_pos rfl]; rfl
  · rw [if_neg (tx1_ne e), List.count_singleton]
    rw [show (c == 10) = false from beq_eq_false_iff_ne.mpr e]
    simp
theorem lnAfter_tx : ∀ {es : List Nat} {vs : List Value} {ln : Int}, Sg vs es → lnAfter ln vs = ln + ((es.count 10 : Nat) : Int)
  | [], vs, ln, h => by rw [Sg.nil_inv h]; simp [lnAfter]
  | c :: es, vs, ln, h => by
    obtain ⟨t, vs', rfl, h'⟩ := Sg.cons_inv h
    show lnAfter (bump (tx [c]) ln) vs' = _
    rw [lnAfter_tx h', bump_tx, show c :: es = [c] ++ es from rfl, List.count_append]
    lia
theorem toka_spec (w : World) (x dx st dst f c' cell sl pb : Addr) (k1 k2 k3 k4 j1 j2 j3 j4 j5 tw jl jw tl : Tok) (jln : Int) (jws : PySem.Str) (jpb : Value)
    (name qual : PySem.Str) (P : Arguments) (Bd : PySem.Expr) (Sc : Scope) (cl : List (PySem.Str × Addr)) (pm ctv : Value) (oc ocell : Obj) (ln : Int) (n e : Nat) (cs : List Nat) (way : Int) (vs rest : List Value)
    (hap : Apart [x, dx, st, dst, f, c', cell, sl, pb]) (HR : Lam w f c' cell sl name qual P Bd Sc cl pm ctv oc ocell)
    (hcs : 0 < cs.length) (hc2 : cs.length ≤ 100) (hS : Sg vs (wrt cs way)) (hz : (vs ++ rest).length ≤ 900) :
    Spec w 56 3 [.ref x] ((pb, listOf #[] e) :: lexL w x dx st dst f c' cell sl pb k1 k2 k3 k4 j1 j2 j3 j4 j5 tw jl jw tl jln jws jpb name qual P Bd Sc cl pm ctv oc ocell ln (vs ++ rest) n)
      (fun v' news => (∃ t, v' = .str (tx cs) t) ∧ ∃ tl' n', news = (pb, listOf #[] e) :: lexL w x dx st dst f c' cell sl pb k1 k2 k3 k4 j1 j2 j3 j4 j5 tw jl jw tl' jln jws jpb name qual P Bd Sc cl pm ctv oc ocell (ln + (((wrt cs way).count 10 : Nat) : Int)) rest n') := by
  have hln := lnAfter_tx (ln := ln) hS
  by_cases hw : way.fmod 3 = 0
  · have ew : wrt cs way = [34] ++ (cs.map esc).flatten ++ [34] := if_pos hw
    rw [ew] at hS
    obtain ⟨v1, v2, rfl, h1, h2⟩ := Sg.append_inv hS
    obtain ⟨t0, mid, rfl, h3⟩ := Sg.cons_inv (es := (cs.map esc).flatten) h1
    obtain ⟨t1, v4, rfl, h4⟩ := Sg.cons_inv (es := []) h2
    obtain rfl := Sg.nil_inv h4
    have hE := encq_of h3
    have S := tokq_spec w x dx st dst f c' cell sl pb k1 k2 k3 k4 j1 j2 j3 j4 j5 tw jl jw tl jln jws jpb name qual P Bd Sc cl pm ctv oc ocell ln n e _ mid rest t0 t1 hap HR hE (by rw [List.length_map]; lia)
      (by simp only [List.length_append, List.length_cons, List.length_nil] at hz ⊢; lia)
    have e1 : (.str (tx [34]) t0 :: mid ++ [.str (tx [34]) t1]) ++ rest = Value.str (PySem.Str.ofString "\"") t0 :: (mid ++ .str (PySem.Str.ofString "\"") t1 :: rest) := by rw [lit_q]; simp
    rw [e1]
    refine S.mono fun v news hp => ?_
    obtain ⟨⟨t, rfl⟩, tl', n', rfl⟩ := hp
    refine ⟨⟨t, by rw [show PySem.Str.ofString "" = tx [] from by decide, catS_tx]; rfl⟩, tl', n', ?_⟩
    rw [← hln]
    have e2 : lnAfter ln (.str (tx [34]) t0 :: mid ++ [.str (tx [34]) t1]) = lnAfter (bump (PySem.Str.ofString "\"") ln) mid := by
      rw [lnAfter_tx h3, lit_q, bump_tx]
      have h9 : Sg (.str (tx [34]) t0 :: mid ++ [.str (tx [34]) t1]) ([34] ++ (cs.map esc).flatten ++ [34]) := hS
      rw [lnAfter_tx h9, List.count_append, List.count_append]
      simp
    rw [e2]
  · have ew : wrt cs way = (cs.map bs).flatten ++ [if way.fmod 3 = 1 then 9 else 10] := if_neg hw
    rw [ew] at hS
    obtain ⟨v1, v2, rfl, h1, h2⟩ := Sg.append_inv hS
    obtain ⟨t2, v4, rfl, h4⟩ := Sg.cons_inv (es := []) h2
    obtain rfl := Sg.nil_inv h4
    cases cs with
    | nil => exact absurd hcs (Nat.lt_irrefl _)
    | cons c cs =>
      rw [List.map_cons, List.flatten_cons, show bs c = [92, c] from rfl] at h1
      obtain ⟨t0, v5, rfl, h5⟩ := Sg.cons_inv (es := c :: (cs.map bs).flatten) h1
      obtain ⟨t1, mid, rfl, h3⟩ := Sg.cons_inv h5
      have hE := encw_of h3
      have hst : tx [if way.fmod 3 = 1 then 9 else 10] = PySem.Str.ofString "\t" ∨ tx [if way.fmod 3 = 1 then 9 else 10] = PySem.Str.ofString "\n" := by
        rw [lit_tab, lit_nl]
        split
        · exact .inl rfl
        · exact .inr rfl
      simp only [List.length_cons] at hc2
      have S := tokw_spec w x dx st dst f c' cell sl pb k1 k2 k3 k4 j1 j2 j3 j4 j5 tw jl jw tl jln jws jpb name qual P Bd Sc cl pm ctv oc ocell ln n e (tx [c]) _ _ mid rest t0 t1 t2 hap HR hE (tx_length _) hst (by rw [List.length_map]; lia)
        (by simp only [List.length_append, List.length_cons, List.length_nil] at hz ⊢; lia)
      have e1 : (.str (tx [92]) t0 :: .str (tx [c]) t1 :: mid ++ [.str (tx [if way.fmod 3 = 1 then 9 else 10]) t2]) ++ rest = Value.str (PySem.Str.ofString "\\") t0 :: .str (tx [c]) t1 :: (mid ++ .str (tx [if way.fmod 3 = 1 then 9 else 10]) t2 :: rest) := by rw [lit_bs]; simp
      rw [e1]
      refine S.mono fun v news hp => ?_
      obtain ⟨⟨t, rfl⟩, tl', n', rfl⟩ := hp
      refine ⟨⟨t, ?_⟩, tl', n', ?_⟩
      · rw [show PySem.Str.ofString "" = tx [] from by decide]
        have := catS_tx [] (c :: cs)
        rw [List.map_cons] at this
        rw [this]; rfl
      · rw [← hln]
        have e2 : lnAfter ln (.str (tx [92]) t0 :: .str (tx [c]) t1 :: mid ++ [.str (tx [if way.fmod 3 = 1 then 9 else 10]) t2]) = bump (tx [if way.fmod 3 = 1 then 9 else 10]) (lnAfter (bump (tx [c]) (bump (PySem.Str.ofString "\\") ln)) mid) := by
          rw [lnAfter_tx h3, lit_bs, bump_tx, bump_tx, bump_tx]
          have h9 : Sg (.str (tx [92]) t0 :: .str (tx [c]) t1 :: mid ++ [.str (tx [if way.fmod 3 = 1 then 9 else 10]) t2]) ([92] ++ [c] ++ (cs.map bs).flatten ++ [if way.fmod 3 = 1 then 9 else 10]) := hS
          rw [lnAfter_tx h9, List.count_append, List.count_append, List.count_append]
          lia
        rw [e2]

end

section
theorem words_askp : True := by
  k_with_none
  k_with "k_room" => (first | decide | ((try simp only [depth_under_make, depth_under_kw, depth_in1, depth_deeper, depth_caller]); lia))
  k_with "eval ListComp" => ((k_here; k_dflt (refine LCg.ListComp_U (F₀ := by k_asm) (by with_unfolding_all rfl) (by decide) (by rfl) (by decide) (by rfl) ?_); k_dflt lcg_toSrc))
  k_with "exec Assign cons ListComp" => ((k_here; k_dflt (refine LCg.Assign_ListComp_U (F₀ := by k_asm) (by rfl) (by with_unfolding_all rfl) (by with_unfolding_all rfl) (by decide) (by rfl) (by decide) (by rfl) (by rfl) (by rfl) ?_); k_dflt lcg_toSrc))
  k_with "CompSrc" => ((k_here; k_dflt (first | (refine LCg.CompSrc.ledger (by rfl) (by k_asm) (by k_asm) (by k_mem) (by first | exact Nat.le_of_ble_eq_true rfl | size_fits) ?_; intro g'; lcg_lit) | (refine LCg.CompSrc.range (by rfl) (by k_asm) (by k_asm) (by assumption) (by first | decide | rfl) (by first | rfl | decide) (by first | exact Nat.le_of_ble_eq_true rfl | size_fits) ?_; intro g'; lcg_lit))))
  k_with "binaryOp Pow int int" => ((k_here; with_reducible refine pow_pw ?kb1 ?kb2 ?_; (case kb1 => assumption); (case kb2 => assumption)))
  k_with "binaryOp Mult int int" => ((k_here; with_reducible refine mul_pw ?kb1 ?kb2 ?_; (case kb1 => assumption); (case kb2 => assumption)))
  k_with "binaryOp BitXor int int" => ((k_here; with_reducible refine xor_xr ?_))
  k_with "CompRest" => ((with_unfolding_all first | (refine LCg.CompRest.succ ?_; intro v' I' oI' C' oC' D' m' h' tk' E' hv' hC' hx' F' N' off' ne'; (first | lcg_open hv' | (obtain ⟨t9', hv9'⟩ := hv'; subst hv9')); (obtain ⟨neIC', neID', neCD'⟩ := ne')) | refine LCg.CompRest.zero ?_))
  k_with "lcg_off" => (with_reducible assumption)
  k_with "CompEnd" => (lcg_end)
  k_with "eval Name" => ((k_here; k_dflt (first
  | (refine' nameX_L ?F ?v ?_ ?a ?b; (case F => k_asm); (case a => rfl); (case b => rfl); (case v => rfl); k_whole)
  | (refine' nameX_C ?N ?c ?m ?d ?_ ?a ?b; (case a => rfl); (case b => rfl); (case N => k_asm); (case c => rfl); (case m => k_mem); (case d => k_asm); k_whole)
  | (refine' nameX_K ?F ?X ?T ?e ?_ ?a ?b; (case F => k_asm); (case X => k_asm); (case T => k_asm); (case a => rfl); (case b => rfl); (case e => k_is); k_whole))))
  k_with "eval Name" => ((k_here; (with_reducible show wpAny _ _ (eval (PySem.Expr.Name _ _) (compEnvC _ _ _ _)) _ _ _); k_dflt (first
  | (refine LCgL.ld_own (by k_asm) (by k_mem) (by assumption) (by assumption) ?_)
  | (refine' lcf_cell ?N ?c ?m ?d ?_ ?a ?b; (case a => rfl); (case b => rfl); (case N => k_asm); (case c => rfl); (case m => k_mem); (case d => k_asm); k_whole)
  | (refine' lcf_free ?N ?c ?m ?d ?_ ?a ?b; (case a => rfl); (case b => rfl); (case N => k_asm); (case c => rfl); (case m => k_mem); (case d => k_asm); k_whole)
  | (refine LCgL.ld_global (by k_asm) (by k_asm) (by k_asm) (by k_is) ?_))))
  k_with "FinE" => (((unfold LCg.FinE); intro D' h' tk' F' N' oq9'; (try simp only [List.nil_append, List.cons_append] at N'); (try dsimp only)))
  k_with "FinA" => (((unfold LCg.FinA); intro D' h' tk' F' N' oq9'; (try simp only [List.nil_append, List.cons_append] at N'); (try dsimp only)))
  k_with "k_ne" => (((try dsimp only); first
  | (with_reducible assumption)
  | (with_reducible exact Ne.symm (by assumption))
  | (refine' off1_ne ?nh ?nm; (case nh => with_reducible assumption); (case nm => k_mem))
  | (refine' off1_ne' ?nh ?nm; (case nh => with_reducible assumption); (case nm => k_mem))
  | (refine' off3_I ?nh ?nm; (case nh => with_reducible assumption); (case nm => k_mem))
  | (refine' off3_C ?nh ?nm; (case nh => with_reducible assumption); (case nm => k_mem))
  | (refine' off3_D ?nh ?nm; (case nh => with_reducible assumption); (case nm => k_mem))
  | (refine' off3_I' ?nh ?nm; (case nh => with_reducible assumption); (case nm => k_mem))
  | (refine' off3_C' ?nh ?nm; (case nh => with_reducible assumption); (case nm => k_mem))
  | (refine' off3_D' ?nh ?nm; (case nh => with_reducible assumption); (case nm => k_mem))
  | (refine' two_ne ?nh ?nm; (case nh => with_reducible assumption); (case nm => tb_start))
  | (refine' two_ne' ?nh ?nm; (case nh => with_reducible assumption); (case nm => tb_start))
  | (refine neN ?_; lia)))
  k_with "tb_start" => (first | (refine' Two.head ?th; (case th => k_mem)) | (refine' Two.tail ?tw; (case tw => tb_start)))
  k_with "call builtin:list.append" => ((k_here; (with_reducible show wpAny _ _ (PySem.call (Value.builtin _) [Value.ref _, _]) _ _ _); k_dflt (refine append_lit (by k_asm) (by k_asm) (by kl_lit) (by k_upd) (by kl_room) ?_); kl_rest))
  k_with "subscriptTail" => ((k_here; (with_reducible show wpAny _ _ (subscriptTail _ _ (Value.ref _) (Value.int _ _)) _ _ _); k_dflt (refine item_N (by k_asm) (by k_mem) (by decide) (by decide) rfl ?_ (by with_unfolding_all rfl))))
  k_with "subscriptTail Name Name ref int" => ((walk_at "subscriptTail"))
  k_with "subscriptTail Name Constant ref int" => ((walk_at "subscriptTail"))
  k_with "getItem ref int" => ((k_here; k_dflt (refine getItem_N (by k_asm) (by k_mem) (by decide) (by decide) rfl ?_)))
  k_with "getMethod ref" => ((k_here; (with_reducible show wpAny _ _ (getMethod (Value.ref _) (PySem.Str.ofString "read") _) _ _ _); k_dflt (refine kmu_own (by k_asm) (by k_asm) (by k_inst) (by k_is) (by k_is) ?_)))
  k_with "And" => (((with_reducible show FnAt _ _ ∧ _); refine ⟨FnAt.of (by k_asm) (by k_mem), ?_⟩; (try dsimp only [List.nil_append, List.cons_append])))
  k_with "k_mem" => (first | exact List.Mem.head _ | exact mem1 | exact mem2 | exact mem3 | exact mem4 | exact mem5 | exact mem6 | exact mem7 | (refine' mem8 ?_; k_mem))
  k_with "lcg_sub" => (first | exact sub_nil | (refine sub_cons (by k_mem) ?_; lcg_sub))
  k_with "kpt_turns" => (first | exact Take.head | exact tk1 | exact tk2 | exact tk3 | (refine' tk4 ?tk; (case tk => kpt_turns)))
  k_with "tb_rel" => (first | exact Pick.nil | (refine' Pick.cons ?pt ?pk; (case pt => kpt_turns); (case pk => tb_rel)))
  k_with "ktm_same2" => (first | exact True.intro | (refine off1_cons (by k_ne) ?_; ktm_same2))
  k_with "ktr_rel" => (first | exact True.intro | (refine And.intro (by ktm_same2) ?_; ktr_rel))
  k_with "ktr_room" => (first | decide | ((try simp only [depth_under_make, depth_under_kw, depth_in1, depth_deeper, depth_caller] at *); lia))
  k_with "truthy ref" => ((k_here; (with_reducible show wpAny _ _ (truthy (Value.ref _)) _ _ _); k_dflt (first
  | (refine truthy_cons (by k_asm) (by k_mem) (by with_reducible assumption) ?_)
  | (refine truthy_nil (by k_asm) (by k_mem) ?_))))
  k_with "call builtin:list.pop" => ((k_here; (with_reducible show wpAny _ _ (PySem.call (Value.builtin _) [Value.ref _, Value.int 0 _]) _ _ _); k_dflt (refine pop0_cons (by k_asm) (by k_asm) (by k_upd) (by with_reducible assumption) ?_); kl_rest))
  k_with "execs cons" => ((k_here; k_fold))
  exact True.intro

/-- how many ones there are -/
noncomputable def pop (n : Nat) : Nat := n % 2 + n / 2 % 2 + n / 4 % 2 + n / 8 % 2 + n / 16 % 2
theorem pop_half {n : Nat} (h : n < 32) : pop n = pop (n / 2) + n % 2 := by
  have : ∀ n : Fin 32, pop n.val = pop (n.val / 2) + n.val % 2 := by decide +kernel
  exact this ⟨n, h⟩
theorem xr_nat {a b : Nat} (ha : a < 32) (hb : b < 32) : Builtin.bitXor (a : Int) (b : Int) = ((a ^^^ b : Nat) : Int) := by
  have : ∀ (a b : Fin 32), Builtin.bitXor ((a.val : Nat) : Int) ((b.val : Nat) : Int) = ((a.val ^^^ b.val : Nat) : Int) := by decide +kernel
  exact this ⟨a, ha⟩ ⟨b, hb⟩
theorem xor_small {a b : Nat} (ha : a < 32) (hb : b < 32) : a ^^^ b < 32 := Nat.xor_lt_two_pow (n := 5) ha hb
/-- nats, one a value -/
inductive NA : List Value → List Nat → Prop
  | nil : NA [] []
  | cons {vs ns} (n : Nat) (t : Tok) : NA vs ns → NA (.int ((n : Nat) : Int) t :: vs) (n :: ns)
theorem NA.snoc {vs : List Value} {ns : List Nat} {n : Nat} {t : Tok} (h : NA vs ns) : NA (vs ++ [.int ((n : Nat) : Int) t]) (ns ++ [n]) := by
  induction h with
  | nil => exact .cons _ _ .nil
  | cons m u _ ih => exact .cons _ _ ih
theorem NA.len {vs : List Value} {ns : List Nat} (h : NA vs ns) : vs.length = ns.length := by
  induction h with
  | nil => rfl
  | cons _ _ _ ih => rw [List.length_cons, List.length_cons, ih]
/-- a list's ints, told by their places -/
noncomputable def RowL (vs : List Value) (M : Nat) (f : Nat → Int) : Prop := vs.length = M ∧ ∀ j, j < M → ∃ t, vs[j]? = some (.int (f j) t)
theorem RowL.snoc {vs : List Value} {M : Nat} {f : Nat → Int} {t : Tok} {x : Int} (h : RowL vs M f) (hx : x = f M) : RowL (vs ++ [.int x t]) (M + 1) f := by
  refine ⟨by rw [List.length_append, h.1]; rfl, fun j hj => ?_⟩
  by_cases e : j = M
  · subst e
    exact ⟨t, by rw [List.getElem?_append_right (by rw [h.1]; exact Nat.le_refl _), h.1, Nat.sub_self, hx]; rfl⟩
  · obtain ⟨t', e'⟩ := h.2 j (by lia)
    exact ⟨t', by rw [List.getElem?_append_left (by rw [h.1]; lia)]; exact e'⟩
section
variable {prog : Program} {w : World} {A : Around} {E : Value → Shared → Prop} {s : Shared} {h₀ : Heap} {L D : Addr} {m : PySem.Str → Option Value} {news news' : List (Addr × Obj)} {t u : Tok} {value slice : PySem.Expr} {k n : Nat} {vs : List Value} {v : Value} {Q : Value → Shared → Prop}
theorem get_int {f : Nat → Int} {M : Nat} (N : News h₀ L s.heap news := by k_asm) (hm : (D, listOf vs.toArray n) ∈ news := by k_mem) (R : RowL vs M f := by with_reducible assumption) (hk : k < M := by first | with_reducible assumption | lia) (hM : M ≤ 1000 := by first | decide | lia) (h : ∀ t, Q (.int (f k) t) s)
    (hs : subscripted slice false (.ref D) (.int (k : Int) u) = operate [.ref D, .int (k : Int) u] (getItem (.ref D) (.int (k : Int) u)) := by with_unfolding_all rfl) :
    wpAny (model prog w) A (subscriptTail value slice (.ref D) (.int (k : Int) u)) Q E s := by
  obtain ⟨t, e⟩ := R.2 k hk
  refine tail_any ⟨_, (N _ hm).1, rfl⟩ slot_list_getitem.lookup (wpAny_getItem_list ⟨_, (N _ hm).1, rfl, _, rfl⟩ (by lia) (by lia) (by rw [Int.toNat_natCast, List.getElem?_toArray]; exact e) (h t)) hs
theorem get_val {F : Tok → Value} (N : News h₀ L s.heap news) (hm : (D, listOf vs.toArray n) ∈ news) (hv : ∃ t, vs[k]? = some (F t)) (hM : k ≤ 1000) (h : ∀ t, Q (F t) s)
    (hs : subscripted slice false (.ref D) (.int (k : Int) u) = operate [.ref D, .int (k : Int) u] (getItem (.ref D) (.int (k : Int) u)) := by with_unfolding_all rfl) :
    wpAny (model prog w) A (subscriptTail value slice (.ref D) (.int (k : Int) u)) Q E s := by
  obtain ⟨t, e⟩ := hv
  refine tail_any ⟨_, (N _ hm).1, rfl⟩ slot_list_getitem.lookup (wpAny_getItem_list ⟨_, (N _ hm).1, rfl, _, rfl⟩ (by lia) (by lia) (by rw [Int.toNat_natCast, List.getElem?_toArray]; exact e) (h t)) hs
theorem get_str {x : PySem.Str} (N : News h₀ L s.heap news := by k_asm) (hm : (D, listOf vs.toArray n) ∈ news := by k_mem) (hv : ∃ t, vs[k]? = some (.str x t) := by with_reducible assumption) (hM : k ≤ 1000 := by first | decide | lia) (h : ∀ t, Q (.str x t) s)
    (hs : subscripted slice false (.ref D) (.int (k : Int) u) = operate [.ref D, .int (k : Int) u] (getItem (.ref D) (.int (k : Int) u)) := by with_unfolding_all rfl) :
    wpAny (model prog w) A (subscriptTail value slice (.ref D) (.int (k : Int) u)) Q E s := get_val (F := fun t => .str x t) N hm hv hM h hs
theorem get_num {x : Int} (N : News h₀ L s.heap news := by k_asm) (hm : (D, listOf vs.toArray n) ∈ news := by k_mem) (hv : ∃ t, vs[k]? = some (.int x t) := by with_reducible assumption) (hM : k ≤ 1000 := by lia) (h : ∀ t, Q (.int x t) s)
    (hs : subscripted slice false (.ref D) (.int (k : Int) u) = operate [.ref D, .int (k : Int) u] (getItem (.ref D) (.int (k : Int) u)) := by with_unfolding_all rfl) :
    wpAny (model prog w) A (subscriptTail value slice (.ref D) (.int (k : Int) u)) Q E s := get_val (F := fun t => .int x t) N hm hv hM h hs
theorem app_any (F : Fr h₀ L s.heap m := by k_asm) (N : News h₀ L s.heap news := by k_asm) (U : Upd D (listOf vs.toArray n) (listOf (vs ++ [v]).toArray (n + 1)) news news' := by k_upd) (hz : vs.length ≤ 1000 := by first | lia | exact Nat.le_of_ble_eq_true rfl)
    (h : ∀ h', Fr h₀ L h' m → News h₀ L h' news' → Q .none { s with heap := h' }) : wpAny (model prog w) A (PySem.call (.builtin "list.append") [.ref D, v]) Q E s :=
  append_lit F N (by simp) U (by rw [sizeLine_eq, List.size_toArray]; lia) h
theorem shr_nat (h : Q (.int ((k / 2 : Nat) : Int) s.toks) { s with toks := s.toks + 1 }) : wpAny (model prog w) A (binaryOp .RShift (.int (k : Int) t) (.int 1 u)) Q E s :=
  wpAny_rshift1_int (by lia) (by rw [show ((k : Int) / 2) = ((k / 2 : Nat) : Int) by lia]; exact h)
theorem and_nat (h : Q (.int ((k % 2 : Nat) : Int) s.toks) { s with toks := s.toks + 1 }) : wpAny (model prog w) A (binaryOp .BitAnd (.int (k : Int) t) (.int 1 u)) Q E s :=
  and_int (by rw [bitAnd_pp (by lia) (by decide), Int.toNat_natCast]; rw [show (1 : Int).toNat = 1 from rfl, Nat.and_one_is_mod]; exact h)
theorem xor_nat {j : Nat} (hk : k < 32) (hj : j < 32) (h : Q (.int ((k ^^^ j : Nat) : Int) s.toks) { s with toks := s.toks + 1 }) : wpAny (model prog w) A (binaryOp .BitXor (.int (k : Int) t) (.int (j : Int) u)) Q E s :=
  xor_int (by rw [xr_nat hk hj]; exact h)
end
/-- those that are left behind the first askings -/
noncomputable def passes (μ : Nat → Nat) (dist : Nat → Nat) (k n : Nat) : Bool := decide (pop (n ^^^ μ k) = dist k)
noncomputable def left (μ : Nat → Nat) (dist : Nat → Nat) : Nat → List Nat
  | 0 => List.range 32
  | k + 1 => (left μ dist k).filter (passes μ dist k)
theorem left_len (μ dist : Nat → Nat) : ∀ k, (left μ dist k).length ≤ 32
  | 0 => by simp [left]
  | k + 1 => Nat.le_trans (List.length_filter_le _ _) (left_len μ dist k)
theorem left_small (μ dist : Nat → Nat) : ∀ k, ∀ n ∈ left μ dist k, n < 32
  | 0, n, h => List.mem_range.mp h
  | k + 1, n, h => left_small μ dist k n (List.mem_filter.mp h).1
theorem news_pick2 {h₀ h : Heap} {L : Addr} {p1 p2 : Addr × Obj} {news r1 ol : List (Addr × Obj)} (N : News h₀ L h news) (T1 : Take p1 news r1) (T2 : Take p2 r1 ol) : News h₀ L h (p1 :: p2 :: ol) := fun q hq => by
  rcases List.mem_cons.mp hq with rfl | hq
  · exact N _ T1.mem.1
  · rcases List.mem_cons.mp hq with rfl | hq
    · exact N _ (T1.mem.2 _ T2.mem.1)
    · exact N _ (T1.mem.2 _ (T2.mem.2 _ hq))
theorem news_pick3 {h₀ h : Heap} {L : Addr} {p1 p2 p3 : Addr × Obj} {news r1 r2 ol : List (Addr × Obj)} (N : News h₀ L h news) (T1 : Take p1 news r1) (T2 : Take p2 r1 r2) (T3 : Take p3 r2 ol) : News h₀ L h (p1 :: p2 :: p3 :: ol) := fun q hq => by
  rcases List.mem_cons.mp hq with rfl | hq
  · exact N _ T1.mem.1
  · exact news_pick2 (fun q hq => N q (T1.mem.2 q hq)) T2 T3 q hq
theorem levd_spec (w : World) (a b : List Nat) (t1 t2 t3 : Tok) (d : Nat) (hN : Near a b) (hl : a.length ≤ 40) (hd : psum a b a.length = (d : Int)) (h5 : d ≤ 5) :
    Spec w 28 3 [.str (tx a) t1, .str (tx b) t2, .int 5 t3] [] (fun v news => news = [] ∧ ∃ t, v = .int (d : Int) t) :=
  (lev_spec w a b t1 t2 t3 hN hl (by lia)).mono fun v news h => by rw [hd] at h; exact h
/-- ahead of each turn where the weights are made -/
inductive InvW (g : Heap) (s : Shared) (L I lw lm : Addr) (ol : List (Addr × Obj)) : Nat → Shared → Prop
  | mk (i vs nn h' tk m) : (1 ≤ i) → (i ≤ 32) → (RowL vs i (fun j => ((pop j : Nat) : Int))) → (News g L h' ((I, rngIt ((i : Nat) : Int) (32 - i)) :: (lw, listOf vs.toArray nn) :: ol)) → (Fr g L h' (frm [(PySem.Str.ofString "weights", .ref lw), (PySem.Str.ofString "marks", .ref lm)] m)) →
    InvW g s L I lw lm ol (32 - i) { s with heap := h', toks := tk }
/-- ahead of each turn where the numbers are laid in -/
inductive InvP (g : Heap) (s : Shared) (L I pb2 lwt lm lw : Addr) (ol : List (Addr × Obj)) : Nat → Shared → Prop
  | mk (i vs nn h' tk m) : (i ≤ 32) → (NA vs (List.range i)) → (News g L h' ((I, rngIt ((i : Nat) : Int) (32 - i)) :: (pb2, listOf vs.toArray nn) :: ol)) → (Fr g L h' (frm [(PySem.Str.ofString "weights", .ref lwt), (PySem.Str.ofString "marks", .ref lm), (PySem.Str.ofString "words", .ref lw)] m)) →
    InvP g s L I pb2 lwt lm lw ol (32 - i) { s with heap := h', toks := tk }
/-- the words, by their places -/
noncomputable def WordsL (ws : List Value) (W : Nat → List Nat) : Prop := ws.length = 5 ∧ ∀ k, k < 5 → ∃ t, ws[k]? = some (.str (tx (W k)) t)
theorem words5 {W : Nat → List Nat} {t0 t1 t2 t3 t4 : Tok} : WordsL [.str (tx (W 0)) t0, .str (tx (W 1)) t1, .str (tx (W 2)) t2, .str (tx (W 3)) t3, .str (tx (W 4)) t4] W := by
  refine ⟨rfl, ?_⟩
  intro i hi
  have := lt5 (by assumption : i < 5)
  rcases this with rfl | rfl | rfl | rfl | rfl <;> exact ⟨_, rfl⟩
theorem words_lit {ws : List Value} {W : Nat → List Nat} (h : WordsL ws W) : ∃ t0 t1 t2 t3 t4, ws = [.str (tx (W 0)) t0, .str (tx (W 1)) t1, .str (tx (W 2)) t2, .str (tx (W 3)) t3, .str (tx (W 4)) t4] :=
  five_by (F := fun j t => Value.str (tx (W j)) t) h.1 h.2
theorem row4 {ts : List Value} {f : Nat → Int} (h : RowL ts 4 f) : ∃ t0 t1 t2 t3, ts = [.int (f 0) t0, .int (f 1) t1, .int (f 2) t2, .int (f 3) t3] := by
  obtain ⟨hl, h⟩ := h
  obtain ⟨a, b, c, d, rfl⟩ := len4 hl
  obtain ⟨t0, h0⟩ := h 0 (by decide)
  obtain ⟨t1, h1⟩ := h 1 (by decide)
  obtain ⟨t2, h2⟩ := h 2 (by decide)
  obtain ⟨t3, h3⟩ := h 3 (by decide)
  cases h0; cases h1; cases h2; cases h3
  exact ⟨_, _, _, _, rfl⟩
theorem news_pick4 {h₀ h : Heap} {L : Addr} {p1 p2 p3 p4 : Addr × Obj} {news r1 r2 r3 ol : List (Addr × Obj)} (N : News h₀ L h news) (T1 : Take p1 news r1) (T2 : Take p2 r1 r2) (T3 : Take p3 r2 r3) (T4 : Take p4 r3 ol) : News h₀ L h (p1 :: p2 :: p3 :: p4 :: ol) := fun q hq => by
  rcases List.mem_cons.mp hq with rfl | hq
  · exact N _ T1.mem.1
  · exact news_pick3 (fun q hq => N q (T1.mem.2 q hq)) T2 T3 T4 q hq
/-- ahead of each asking -/
inductive InvR (g : Heap) (s : Shared) (μ dist : Nat → Nat) (W : Nat → List Nat) (L I pb2 lt lwt lm lw : Addr) (ol : List (Addr × Obj)) : Nat → Shared → Prop
  | mk (i vs nn ts nt ws nw h' tk m tw) : (i ≤ 4) → (NA vs (left μ dist i)) → (RowL ts i (fun j => ((dist j : Nat) : Int))) → (WordsL ws W) → (News g L h' ((I, rngIt ((i : Nat) : Int) (4 - i)) :: (pb2, listOf vs.toArray nn) :: (lt, listOf ts.toArray nt) :: (lw, listOf ws.toArray nw) :: ol)) → (Fr g L h' (frm [(PySem.Str.ofString "waiting", .int (((left μ dist i).length : Nat) : Int) tw), (PySem.Str.ofString "told", .ref lt), (PySem.Str.ofString "weights", .ref lwt), (PySem.Str.ofString "marks", .ref lm), (PySem.Str.ofString "words", .ref lw)] m)) →
    InvR g s μ dist W L I pb2 lt lwt lm lw ol (4 - i) { s with heap := h', toks := tk }
/-- ahead of each turn where a number is taken off -/
inductive InvF (g : Heap) (s : Shared) (μ dist : Nat → Nat) (i : Nat) (L J pb2 lt lwt lm lw : Addr) (ti : Tok) (ol : List (Addr × Obj)) : Nat → Shared → Prop
  | mk (ps ks y vs nn ts nt h' tk m tq) : (NA vs (ps ++ ks)) → ((∀ n ∈ ps, n < 32)) → (ks ++ ps.filter (passes μ dist i) = left μ dist (i + 1)) → ((ps ++ ks).length ≤ 32) → (RowL ts (i + 1) (fun j => ((dist j : Nat) : Int))) → (News g L h' ((J, rngIt y (List.length ps)) :: (pb2, listOf vs.toArray nn) :: (lt, listOf ts.toArray nt) :: ol)) → (Fr g L h' (frm [(PySem.Str.ofString "kept", .int ((List.length ks : Nat) : Int) tq), (PySem.Str.ofString "k", .int ((i : Nat) : Int) ti), (PySem.Str.ofString "told", .ref lt), (PySem.Str.ofString "weights", .ref lwt), (PySem.Str.ofString "marks", .ref lm), (PySem.Str.ofString "words", .ref lw)] m)) →
    InvF g s μ dist i L J pb2 lt lwt lm lw ti ol (List.length ps) { s with heap := h', toks := tk }
theorem apart_right : ∀ {l r : List Addr}, Apart (l ++ r) → Apart r
  | [], _, h => h
  | _ :: _, _, h => apart_right h.2
/-- the same, put by: a search for what differs does not meet it -/
structure ApB (l : List Addr) : Prop where
  h : Apart l

end

section
theorem words_five : True := by
  k_with_none
  k_with "k_room" => (first | decide | ((try simp only [depth_under_make, depth_under_kw, depth_in1, depth_deeper, depth_caller]); lia))
  k_with "eval ListComp" => ((k_here; k_dflt (refine LCg.ListComp_U (F₀ := by k_asm) (by with_unfolding_all rfl) (by decide) (by rfl) (by decide) (by rfl) ?_); k_dflt lcg_toSrc))
  k_with "exec Assign cons ListComp" => ((k_here; k_dflt (refine LCg.Assign_ListComp_U (F₀ := by k_asm) (by rfl) (by with_unfolding_all rfl) (by with_unfolding_all rfl) (by decide) (by rfl) (by decide) (by rfl) (by rfl) (by rfl) ?_); k_dflt lcg_toSrc))
  k_with "CompSrc" => ((k_here; k_dflt (first | (refine LCg.CompSrc.ledger (by rfl) (by k_asm) (by k_asm) (by k_mem) (by first | exact Nat.le_of_ble_eq_true rfl | size_fits) ?_; intro g'; lcg_lit) | (refine LCg.CompSrc.range (by rfl) (by k_asm) (by k_asm) (by assumption) (by first | decide | rfl) (by first | rfl | decide) (by first | exact Nat.le_of_ble_eq_true rfl | size_fits) ?_; intro g'; lcg_lit))))
  k_with "binaryOp Pow int int" => ((k_here; with_reducible refine pow_pw ?kb1 ?kb2 ?_; (case kb1 => assumption); (case kb2 => assumption)))
  k_with "binaryOp Mult int int" => ((k_here; with_reducible refine mul_pw ?kb1 ?kb2 ?_; (case kb1 => assumption); (case kb2 => assumption)))
  k_with "binaryOp BitXor int int" => ((k_here; with_reducible refine xor_xr ?_))
  k_with "CompRest" => ((with_unfolding_all first | (refine LCg.CompRest.succ ?_; intro v' I' oI' C' oC' D' m' h' tk' E' hv' hC' hx' F' N' off' ne'; (first | lcg_open hv' | (obtain ⟨t9', hv9'⟩ := hv'; subst hv9')); (obtain ⟨neIC', neID', neCD'⟩ := ne')) | refine LCg.CompRest.zero ?_))
  k_with "lcg_off" => (with_reducible assumption)
  k_with "CompEnd" => (lcg_end)
  k_with "eval Name" => ((k_here; k_dflt (first
  | (refine' nameX_L ?F ?v ?_ ?a ?b; (case F => k_asm); (case a => rfl); (case b => rfl); (case v => rfl); k_whole)
  | (refine' nameX_C ?N ?c ?m ?d ?_ ?a ?b; (case a => rfl); (case b => rfl); (case N => k_asm); (case c => rfl); (case m => k_mem); (case d => k_asm); k_whole)
  | (refine' nameX_K ?F ?X ?T ?e ?_ ?a ?b; (case F => k_asm); (case X => k_asm); (case T => k_asm); (case a => rfl); (case b => rfl); (case e => k_is); k_whole))))
  k_with "eval Name" => ((k_here; (with_reducible show wpAny _ _ (eval (PySem.Expr.Name _ _) (compEnvC _ _ _ _)) _ _ _); k_dflt (first
  | (refine LCgL.ld_own (by k_asm) (by k_mem) (by assumption) (by assumption) ?_)
  | (refine' lcf_cell ?N ?c ?m ?d ?_ ?a ?b; (case a => rfl); (case b => rfl); (case N => k_asm); (case c => rfl); (case m => k_mem); (case d => k_asm); k_whole)
  | (refine' lcf_free ?N ?c ?m ?d ?_ ?a ?b; (case a => rfl); (case b => rfl); (case N => k_asm); (case c => rfl); (case m => k_mem); (case d => k_asm); k_whole)
  | (refine LCgL.ld_global (by k_asm) (by k_asm) (by k_asm) (by k_is) ?_))))
  k_with "FinE" => (((unfold LCg.FinE); intro D' h' tk' F' N' oq9'; (try simp only [List.nil_append, List.cons_append] at N'); (try dsimp only)))
  k_with "FinA" => (((unfold LCg.FinA); intro D' h' tk' F' N' oq9'; (try simp only [List.nil_append, List.cons_append] at N'); (try dsimp only)))
  k_with "k_ne" => (((try dsimp only); first
  | (with_reducible assumption)
  | (with_reducible exact Ne.symm (by assumption))
  | (refine' off1_ne ?nh ?nm; (case nh => with_reducible assumption); (case nm => k_mem))
  | (refine' off1_ne' ?nh ?nm; (case nh => with_reducible assumption); (case nm => k_mem))
  | (refine' off3_I ?nh ?nm; (case nh => with_reducible assumption); (case nm => k_mem))
  | (refine' off3_C ?nh ?nm; (case nh => with_reducible assumption); (case nm => k_mem))
  | (refine' off3_D ?nh ?nm; (case nh => with_reducible assumption); (case nm => k_mem))
  | (refine' off3_I' ?nh ?nm; (case nh => with_reducible assumption); (case nm => k_mem))
  | (refine' off3_C' ?nh ?nm; (case nh => with_reducible assumption); (case nm => k_mem))
  | (refine' off3_D' ?nh ?nm; (case nh => with_reducible assumption); (case nm => k_mem))
  | (refine' two_ne ?nh ?nm; (case nh => with_reducible assumption); (case nm => tb_start))
  | (refine' two_ne' ?nh ?nm; (case nh => with_reducible assumption); (case nm => tb_start))
  | (refine neN ?_; lia)))
  k_with "tb_start" => (first | (refine' Two.head ?th; (case th => k_mem)) | (refine' Two.tail ?tw; (case tw => tb_start)))
  k_with "call builtin:list.append" => ((k_here; (with_reducible show wpAny _ _ (PySem.call (Value.builtin _) [Value.ref _, _]) _ _ _); k_dflt (refine append_lit (by k_asm) (by k_asm) (by kl_lit) (by k_upd) (by kl_room) ?_); kl_rest))
  k_with "subscriptTail" => ((k_here; (with_reducible show wpAny _ _ (subscriptTail _ _ (Value.ref _) (Value.int _ _)) _ _ _); k_dflt (refine item_N (by k_asm) (by k_mem) (by decide) (by decide) rfl ?_ (by with_unfolding_all rfl))))
  k_with "subscriptTail Name Name ref int" => ((walk_at "subscriptTail"))
  k_with "subscriptTail Name Constant ref int" => ((walk_at "subscriptTail"))
  k_with "getItem ref int" => ((k_here; k_dflt (refine getItem_N (by k_asm) (by k_mem) (by decide) (by decide) rfl ?_)))
  k_with "getMethod ref" => ((k_here; (with_reducible show wpAny _ _ (getMethod (Value.ref _) (PySem.Str.ofString "read") _) _ _ _); k_dflt (refine kmu_own (by k_asm) (by k_asm) (by k_inst) (by k_is) (by k_is) ?_)))
  k_with "And" => (((with_reducible show FnAt _ _ ∧ _); refine ⟨FnAt.of (by k_asm) (by k_mem), ?_⟩; (try dsimp only [List.nil_append, List.cons_append])))
  k_with "k_mem" => (first | exact List.Mem.head _ | exact mem1 | exact mem2 | exact mem3 | exact mem4 | exact mem5 | exact mem6 | exact mem7 | (refine' mem8 ?_; k_mem))
  k_with "lcg_sub" => (first | exact sub_nil | (refine sub_cons (by k_mem) ?_; lcg_sub))
  k_with "kpt_turns" => (first | exact Take.head | exact tk1 | exact tk2 | exact tk3 | (refine' tk4 ?tk; (case tk => kpt_turns)))
  k_with "tb_rel" => (first | exact Pick.nil | (refine' Pick.cons ?pt ?pk; (case pt => kpt_turns); (case pk => tb_rel)))
  k_with "ktm_same2" => (first | exact True.intro | (refine off1_cons (by k_ne) ?_; ktm_same2))
  k_with "ktr_rel" => (first | exact True.intro | (refine And.intro (by ktm_same2) ?_; ktr_rel))
  k_with "ktr_room" => (first | decide | ((try simp only [depth_under_make, depth_under_kw, depth_in1, depth_deeper, depth_caller] at *); lia))
  k_with "truthy ref" => ((k_here; (with_reducible show wpAny _ _ (truthy (Value.ref _)) _ _ _); k_dflt (first
  | (refine truthy_cons (by k_asm) (by k_mem) (by with_reducible assumption) ?_)
  | (refine truthy_nil (by k_asm) (by k_mem) ?_))))
  k_with "call builtin:list.pop" => ((k_here; (with_reducible show wpAny _ _ (PySem.call (Value.builtin _) [Value.ref _, Value.int 0 _]) _ _ _); k_dflt (refine pop0_cons (by k_asm) (by k_asm) (by k_upd) (by with_reducible assumption) ?_); kl_rest))
  k_with "execs cons" => ((k_here; k_fold))
  exact True.intro

/-- one of five -/
noncomputable def w5 {α : Type} (a b c d e : α) (i : Nat) : α := match i with | 0 => a | 1 => b | 2 => c | 3 => d | _ => e
noncomputable def p3 (k : Nat) : Int := match k with | 0 => 1 | 1 => 3 | 2 => 9 | 3 => 27 | _ => 81
theorem five_of {F : Tok → Nat → Value} {t0 t1 t2 t3 t4 : Tok} {i : Nat} (hi : i < 5) : ∃ t, [F t0 0, F t1 1, F t2 2, F t3 3, F t4 4][i]? = some (F t i) := by
  have := lt5 (by assumption : i < 5)
  rcases this with rfl | rfl | rfl | rfl | rfl <;> exact ⟨_, rfl⟩
theorem five_ints {a b c d e : Int} {t0 t1 t2 t3 t4 : Tok} {i : Nat} {v : Value} (hi : i < 5) (h : (#[.int a t0, .int b t1, .int c t2, .int d t3, .int e t4] : Array Value)[i]? = some v) : ∃ t, v = .int (w5 a b c d e i) t := by
  have := lt5 (by assumption : i < 5)
  rcases this with rfl | rfl | rfl | rfl | rfl <;> exact ⟨_, (Option.some.inj h).symm⟩
theorem five_all {ys : List Value} {F : Nat → Tok → Value} (hl : ys.length = 5) (hy : ∀ i v, ys[i]? = some v → ∃ t, v = F i t) {G : List Value → Prop} (k : ∀ t0 t1 t2 t3 t4, G [F 0 t0, F 1 t1, F 2 t2, F 3 t3, F 4 t4]) : G ys := by
  obtain ⟨a, b, c, d, e, rfl⟩ := len5 hl
  obtain ⟨_, rfl⟩ := hy 0 a rfl
  obtain ⟨_, rfl⟩ := hy 1 b rfl
  obtain ⟨_, rfl⟩ := hy 2 c rfl
  obtain ⟨_, rfl⟩ := hy 3 d rfl
  obtain ⟨_, rfl⟩ := hy 4 e rfl
  exact k _ _ _ _ _
theorem three_all {ys : List Value} {F : Nat → Tok → Value} (hl : ys.length = 3) (hy : ∀ i v, ys[i]? = some v → ∃ t, v = F i t) {G : List Value → Prop} (k : ∀ t0 t1 t2, G [F 0 t0, F 1 t1, F 2 t2]) : G ys := by
  obtain ⟨a, b, c, rfl⟩ := len3 hl
  obtain ⟨_, rfl⟩ := hy 0 a rfl
  obtain ⟨_, rfl⟩ := hy 1 b rfl
  obtain ⟨_, rfl⟩ := hy 2 c rfl
  exact k _ _ _
section
variable {prog : Program} {w : World} {A : Around} {E : Value → Shared → Prop} {s : Shared} {h₀ : Heap} {L D : Addr} {news : List (Addr × Obj)} {t u t0 t1 t2 t3 t4 : Tok} {Q : Value → Shared → Prop} {k n : Nat} {a b c d e : Int} {wa wb wc wd we : List Nat} {value slice : PySem.Expr}
theorem get_five0
    (h : ∀ t, Q (.int (w5 a b c d e k) t) s)
    (N : News h₀ L s.heap news := by k_asm) (hm : (D, listOf #[.int a t0, .int b t1, .int c t2, .int d t3, .int e t4] n) ∈ news := by k_mem) (hk : k < 5 := by lia)
    (hs : subscripted slice false (.ref D) (.int (k : Int) u) = operate [.ref D, .int (k : Int) u] (getItem (.ref D) (.int (k : Int) u)) := by with_unfolding_all rfl) :
    wpAny (model prog w) A (subscriptTail value slice (.ref D) (.int (k : Int) u)) Q E s :=
  get_val (F := fun t => .int (w5 a b c d e k) t) N hm (five_of (F := fun t k => .int (w5 a b c d e k) t) hk) (by lia) h hs
theorem get_five
    (h : ∀ t, 0 ≤ w5 a b c d e k → w5 a b c d e k ≤ 4 → Q (.int (w5 a b c d e k) t) s)
    (N : News h₀ L s.heap news := by k_asm) (hm : (D, listOf #[.int a t0, .int b t1, .int c t2, .int d t3, .int e t4] n) ∈ news := by k_mem) (hk : k < 5 := by lia)
    (a0 : 0 ≤ a := by with_reducible assumption) (a1 : a ≤ 4 := by with_reducible assumption) (b0 : 0 ≤ b := by with_reducible assumption) (b1 : b ≤ 4 := by with_reducible assumption) (c0 : 0 ≤ c := by with_reducible assumption) (c1 : c ≤ 4 := by with_reducible assumption)
    (d0 : 0 ≤ d := by with_reducible assumption) (d1 : d ≤ 4 := by with_reducible assumption) (e0 : 0 ≤ e := by with_reducible assumption) (e1 : e ≤ 4 := by with_reducible assumption)
    (hs : subscripted slice false (.ref D) (.int (k : Int) u) = operate [.ref D, .int (k : Int) u] (getItem (.ref D) (.int (k : Int) u)) := by with_unfolding_all rfl) :
    wpAny (model prog w) A (subscriptTail value slice (.ref D) (.int (k : Int) u)) Q E s := by
  have z : 0 ≤ w5 a b c d e k ∧ w5 a b c d e k ≤ 4 := by
    have := lt5 (by assumption : k < 5)
    rcases this with rfl | rfl | rfl | rfl | rfl
    · exact ⟨a0, a1⟩
    · exact ⟨b0, b1⟩
    · exact ⟨c0, c1⟩
    · exact ⟨d0, d1⟩
    · exact ⟨e0, e1⟩
  exact get_val (F := fun t => .int (w5 a b c d e k) t) N hm (five_of (F := fun t k => .int (w5 a b c d e k) t) hk) (by lia) (fun t => h t z.1 z.2) hs
theorem get_fiveS
    (h : ∀ t, (w5 wa wb wc wd we k).length = 6 → Q (.str (tx (w5 wa wb wc wd we k)) t) s)
    (N : News h₀ L s.heap news := by k_asm) (hm : (D, listOf #[.str (tx wa) t0, .str (tx wb) t1, .str (tx wc) t2, .str (tx wd) t3, .str (tx we) t4] n) ∈ news := by k_mem) (hk : k < 5 := by lia)
    (la : wa.length = 6 := by exact spell_length _ _) (lb : wb.length = 6 := by exact spell_length _ _) (lc : wc.length = 6 := by exact spell_length _ _) (ld : wd.length = 6 := by exact spell_length _ _) (le : we.length = 6 := by exact spell_length _ _)
    (hs : subscripted slice false (.ref D) (.int (k : Int) u) = operate [.ref D, .int (k : Int) u] (getItem (.ref D) (.int (k : Int) u)) := by with_unfolding_all rfl) :
    wpAny (model prog w) A (subscriptTail value slice (.ref D) (.int (k : Int) u)) Q E s := by
  have z : (w5 wa wb wc wd we k).length = 6 := by
    have := lt5 (by assumption : k < 5)
    rcases this with rfl | rfl | rfl | rfl | rfl <;> assumption
  exact get_val (F := fun t => .str (tx (w5 wa wb wc wd we k)) t) N hm (five_of (F := fun t k => .str (tx (w5 wa wb wc wd we k)) t) hk) (by lia) (fun t => h t z) hs
theorem pow_p3 (h : Q (.int (p3 k) s.toks) { s with toks := s.toks + 1 }) (hk : k < 5 := by lia) : wpAny (model prog w) A (binaryOp .Pow (.int 3 t) (.int (k : Int) u)) Q E s := by
  have := lt5 (by assumption : k < 5)
  rcases this with rfl | rfl | rfl | rfl | rfl <;> exact pow_int_small (by decide) (by decide) (by decide) h
theorem div_p3 (h : Q (.int (a.fdiv (p3 k)) s.toks) { s with toks := s.toks + 1 }) (hk : k < 5 := by lia) : wpAny (model prog w) A (binaryOp .FloorDiv (.int a t) (.int (p3 k) u)) Q E s := by
  have := lt5 (by assumption : k < 5)
  rcases this with rfl | rfl | rfl | rfl | rfl
  · exact floordiv_int (b := 1) (by decide) h (Or.inl (PyProof.noPylong_of_log2 (by decide +kernel)))
  · exact floordiv_int (b := 3) (by decide) h (Or.inl (PyProof.noPylong_of_log2 (by decide +kernel)))
  · exact floordiv_int (b := 9) (by decide) h (Or.inl (PyProof.noPylong_of_log2 (by decide +kernel)))
  · exact floordiv_int (b := 27) (by decide) h (Or.inl (PyProof.noPylong_of_log2 (by decide +kernel)))
  · exact floordiv_int (b := 81) (by decide) h (Or.inl (PyProof.noPylong_of_log2 (by decide +kernel)))
end
theorem five_ex {ys : List Value} {F : Nat → Tok → Value} (hl : ys.length = 5) (hy : ∀ i v, ys[i]? = some v → ∃ t, v = F i t) : ∃ t0 t1 t2 t3 t4, ys = [F 0 t0, F 1 t1, F 2 t2, F 3 t3, F 4 t4] :=
  five_all (G := fun ys => ∃ t0 t1 t2 t3 t4, ys = [F 0 t0, F 1 t1, F 2 t2, F 3 t3, F 4 t4]) hl hy fun _ _ _ _ _ => ⟨_, _, _, _, _, rfl⟩
theorem three_ex {ys : List Value} {F : Nat → Tok → Value} (hl : ys.length = 3) (hy : ∀ i v, ys[i]? = some v → ∃ t, v = F i t) : ∃ t0 t1 t2, ys = [F 0 t0, F 1 t1, F 2 t2] :=
  three_all (G := fun ys => ∃ t0 t1 t2, ys = [F 0 t0, F 1 t1, F 2 t2]) hl hy fun _ _ _ => ⟨_, _, _, rfl⟩

end

section
theorem words_odd : True := by
  k_with_none
  k_with "k_room" => (first | decide | ((try simp only [depth_under_make, depth_under_kw, depth_in1, depth_deeper, depth_caller]); lia))
  k_with "eval ListComp" => ((k_here; k_dflt (refine LCg.ListComp_U (F₀ := by k_asm) (by with_unfolding_all rfl) (by decide) (by rfl) (by decide) (by rfl) ?_); k_dflt lcg_toSrc))
  k_with "exec Assign cons ListComp" => ((k_here; k_dflt (refine LCg.Assign_ListComp_U (F₀ := by k_asm) (by rfl) (by with_unfolding_all rfl) (by with_unfolding_all rfl) (by decide) (by rfl) (by decide) (by rfl) (by rfl) (by rfl) ?_); k_dflt lcg_toSrc))
  k_with "CompSrc" => ((k_here; k_dflt (first | (refine LCg.CompSrc.ledger (by rfl) (by k_asm) (by k_asm) (by k_mem) (by first | exact Nat.le_of_ble_eq_true rfl | size_fits) ?_; intro g'; lcg_lit) | (refine LCg.CompSrc.range (by rfl) (by k_asm) (by k_asm) (by assumption) (by first | decide | rfl) (by first | rfl | decide) (by first | exact Nat.le_of_ble_eq_true rfl | size_fits) ?_; intro g'; lcg_lit))))
  k_with "binaryOp Pow int int" => ((k_here; with_reducible refine pow_pw ?kb1 ?kb2 ?_; (case kb1 => assumption); (case kb2 => assumption)))
  k_with "binaryOp Mult int int" => ((k_here; with_reducible refine mul_pw ?kb1 ?kb2 ?_; (case kb1 => assumption); (case kb2 => assumption)))
  k_with "binaryOp BitXor int int" => ((k_here; with_reducible refine xor_xr ?_))
  k_with "CompRest" => ((with_unfolding_all first | (refine LCg.CompRest.succ ?_; intro v' I' oI' C' oC' D' m' h' tk' E' hv' hC' hx' F' N' off' ne'; (first | lcg_open hv' | (obtain ⟨t9', hv9'⟩ := hv'; subst hv9')); (obtain ⟨neIC', neID', neCD'⟩ := ne')) | refine LCg.CompRest.zero ?_))
  k_with "lcg_off" => (with_reducible assumption)
  k_with "CompEnd" => (lcg_end)
  k_with "eval Name" => ((k_here; k_dflt (first
  | (refine' nameX_L ?F ?v ?_ ?a ?b; (case F => k_asm); (case a => rfl); (case b => rfl); (case v => rfl); k_whole)
  | (refine' nameX_C ?N ?c ?m ?d ?_ ?a ?b; (case a => rfl); (case b => rfl); (case N => k_asm); (case c => rfl); (case m => k_mem); (case d => k_asm); k_whole)
  | (refine' nameX_K ?F ?X ?T ?e ?_ ?a ?b; (case F => k_asm); (case X => k_asm); (case T => k_asm); (case a => rfl); (case b => rfl); (case e => k_is); k_whole))))
  k_with "eval Name" => ((k_here; (with_reducible show wpAny _ _ (eval (PySem.Expr.Name _ _) (compEnvC _ _ _ _)) _ _ _); k_dflt (first
  | (refine LCgL.ld_own (by k_asm) (by k_mem) (by assumption) (by assumption) ?_)
  | (refine' lcf_cell ?N ?c ?m ?d ?_ ?a ?b; (case a => rfl); (case b => rfl); (case N => k_asm); (case c => rfl); (case m => k_mem); (case d => k_asm); k_whole)
  | (refine' lcf_free ?N ?c ?m ?d ?_ ?a ?b; (case a => rfl); (case b => rfl); (case N => k_asm); (case c => rfl); (case m => k_mem); (case d => k_asm); k_whole)
  | (refine LCgL.ld_global (by k_asm) (by k_asm) (by k_asm) (by k_is) ?_))))
  k_with "FinE" => (((unfold LCg.FinE); intro D' h' tk' F' N' oq9'; (try simp only [List.nil_append, List.cons_append] at N'); (try dsimp only)))
  k_with "FinA" => (((unfold LCg.FinA); intro D' h' tk' F' N' oq9'; (try simp only [List.nil_append, List.cons_append] at N'); (try dsimp only)))
  k_with "k_ne" => (((try dsimp only); first
  | (with_reducible assumption)
  | (with_reducible exact Ne.symm (by assumption))
  | (refine' off1_ne ?nh ?nm; (case nh => with_reducible assumption); (case nm => k_mem))
  | (refine' off1_ne' ?nh ?nm; (case nh => with_reducible assumption); (case nm => k_mem))
  | (refine' off3_I ?nh ?nm; (case nh => with_reducible assumption); (case nm => k_mem))
  | (refine' off3_C ?nh ?nm; (case nh => with_reducible assumption); (case nm => k_mem))
  | (refine' off3_D ?nh ?nm; (case nh => with_reducible assumption); (case nm => k_mem))
  | (refine' off3_I' ?nh ?nm; (case nh => with_reducible assumption); (case nm => k_mem))
  | (refine' off3_C' ?nh ?nm; (case nh => with_reducible assumption); (case nm => k_mem))
  | (refine' off3_D' ?nh ?nm; (case nh => with_reducible assumption); (case nm => k_mem))
  | (refine' two_ne ?nh ?nm; (case nh => with_reducible assumption); (case nm => tb_start))
  | (refine' two_ne' ?nh ?nm; (case nh => with_reducible assumption); (case nm => tb_start))
  | (refine neN ?_; lia)))
  k_with "tb_start" => (first | (refine' Two.head ?th; (case th => k_mem)) | (refine' Two.tail ?tw; (case tw => tb_start)))
  k_with "call builtin:list.append" => ((k_here; (with_reducible show wpAny _ _ (PySem.call (Value.builtin _) [Value.ref _, _]) _ _ _); k_dflt (refine append_lit (by k_asm) (by k_asm) (by kl_lit) (by k_upd) (by kl_room) ?_); kl_rest))
  k_with "subscriptTail" => ((k_here; (with_reducible show wpAny _ _ (subscriptTail _ _ (Value.ref _) (Value.int _ _)) _ _ _); k_dflt (refine item_N (by k_asm) (by k_mem) (by decide) (by decide) rfl ?_ (by with_unfolding_all rfl))))
  k_with "subscriptTail Name Name ref int" => ((walk_at "subscriptTail"))
  k_with "subscriptTail Name Constant ref int" => ((walk_at "subscriptTail"))
  k_with "getItem ref int" => ((k_here; k_dflt (refine getItem_N (by k_asm) (by k_mem) (by decide) (by decide) rfl ?_)))
  k_with "getMethod ref" => ((k_here; (with_reducible show wpAny _ _ (getMethod (Value.ref _) (PySem.Str.ofString "read") _) _ _ _); k_dflt (refine kmu_own (by k_asm) (by k_asm) (by k_inst) (by k_is) (by k_is) ?_)))
  k_with "And" => (((with_reducible show FnAt _ _ ∧ _); refine ⟨FnAt.of (by k_asm) (by k_mem), ?_⟩; (try dsimp only [List.nil_append, List.cons_append])))
  k_with "k_mem" => (first | exact List.Mem.head _ | exact mem1 | exact mem2 | exact mem3 | exact mem4 | exact mem5 | exact mem6 | exact mem7 | (refine' mem8 ?_; k_mem))
  k_with "lcg_sub" => (first | exact sub_nil | (refine sub_cons (by k_mem) ?_; lcg_sub))
  k_with "kpt_turns" => (first | exact Take.head | exact tk1 | exact tk2 | exact tk3 | (refine' tk4 ?tk; (case tk => kpt_turns)))
  k_with "tb_rel" => (first | exact Pick.nil | (refine' Pick.cons ?pt ?pk; (case pt => kpt_turns); (case pk => tb_rel)))
  k_with "ktm_same2" => (first | exact True.intro | (refine off1_cons (by k_ne) ?_; ktm_same2))
  k_with "ktr_rel" => (first | exact True.intro | (refine And.intro (by ktm_same2) ?_; ktr_rel))
  k_with "ktr_room" => (first | decide | ((try simp only [depth_under_make, depth_under_kw, depth_in1, depth_deeper, depth_caller] at *); lia))
  k_with "truthy ref" => ((k_here; (with_reducible show wpAny _ _ (truthy (Value.ref _)) _ _ _); k_dflt (first
  | (refine truthy_cons (by k_asm) (by k_mem) (by with_reducible assumption) ?_)
  | (refine truthy_nil (by k_asm) (by k_mem) ?_))))
  k_with "call builtin:list.pop" => ((k_here; (with_reducible show wpAny _ _ (PySem.call (Value.builtin _) [Value.ref _, Value.int 0 _]) _ _ _); k_dflt (refine pop0_cons (by k_asm) (by k_asm) (by k_upd) (by with_reducible assumption) ?_); kl_rest))
  k_with "execs cons" => ((k_here; k_fold))
  exact True.intro

/-- what the five places' ints come to, where the first one is f -/
noncomputable def oddT (f a0 p1 p2 p3 o0 o1 o2 o3 o4 : Int) : Int :=
  f * pw o0 + ((p1 - f) * pw o1 + ((p2 - f) * pw o2 + ((p3 - f) * pw o3 + ((a0 - (f + (p1 - f + (p2 - f + (p3 - f + 0))))) * pw o4 + 0))))
noncomputable def oddF (a0 p1 p2 p3 : Int) : Int := if p1 = 0 ∨ p2 = 0 ∨ p3 = 0 then 0 else if p1 = 2 ∨ p2 = 2 ∨ p3 = 2 then 1 else if 2 < a0 then 0 else 1
noncomputable def oddP (a0 a1 a2 a3 o0 o1 o2 o3 o4 : Int) : Int :=
  oddT (oddF a0 ((a0 + 2 - a1).fdiv 2) ((a0 + 2 - a2).fdiv 2) ((a0 + 2 - a3).fdiv 2)) a0 ((a0 + 2 - a1).fdiv 2) ((a0 + 2 - a2).fdiv 2) ((a0 + 2 - a3).fdiv 2) o0 o1 o2 o3 o4
theorem oddP_is {f a0 a1 a2 a3 o0 o1 o2 o3 o4 : Int} (h : oddF a0 ((a0 + 2 - a1).fdiv 2) ((a0 + 2 - a2).fdiv 2) ((a0 + 2 - a3).fdiv 2) = f) :
    oddT f a0 ((a0 + 2 - a1).fdiv 2) ((a0 + 2 - a2).fdiv 2) ((a0 + 2 - a3).fdiv 2) o0 o1 o2 o3 o4 = oddP a0 a1 a2 a3 o0 o1 o2 o3 o4 := by unfold oddP; rw [h]
/-- where the paths of an if come together: the cell K holds the int v -/
structure MeetC (h₀ : Heap) (L : Addr) (m : PySem.Str → Option Value) (K : Addr) (v : Int) (news : List (Addr × Obj)) (s : Shared) (fl : Flow) (s' : Shared) : Prop where
  next : fl = .next
  here : ∃ o r t h tk, r = v ∧ o.data = Data.cell (some (.int r t)) ∧ s' = { s with heap := h, toks := tk } ∧ Fr h₀ L h m ∧ News h₀ L h ((K, o) :: news)
theorem if_meet {M : Model} {A : Around} {E : Value → Shared → Prop} {s : Shared} {env : Env} {h₀ : Heap} {L : Addr} {m : PySem.Str → Option Value} {news rest : List (Addr × Obj)} {old : Obj} {st : Stmt} {Q : Flow → Shared → Prop} (v : Int)
    (F : Fr h₀ L s.heap m) (N : News h₀ L s.heap news) (hT : Take ((L + 1 + 1 + 1 : Nat), old) news rest) (h : wpAny M A (exec st env) (fun fl s' => MeetC h₀ L m (L + 1 + 1 + 1 : Nat) v rest s fl s') E s)
    (hk : ∀ o t h tk, o.data = Data.cell (some (.int v t)) → Fr h₀ L h m → News h₀ L h (((L + 1 + 1 + 1 : Nat), o) :: rest) → Q .next { s with heap := h, toks := tk }) :
    wpAny M A (exec st env) Q E s := by
  refine wpAny_mono h (fun fl s' H => ?_) (fun _ _ h => h)
  obtain ⟨rfl, o, r, t, h', tk, rfl, hd, rfl, F', N'⟩ := H
  exact hk o t h' tk hd F' N'
noncomputable def w3 (a b c : Int) (i : Nat) : Int := match i with | 0 => a | 1 => b | _ => c
theorem three_at {a b c : Int} {t u z : Tok} {i : Nat} {v : Value} (h : (#[.int a t, .int b u, .int c z] : Array Value)[i]? = some v) : ∃ t, v = .int (w3 a b c i) t := by
  rcases i with _ | _ | _ | i
  · exact ⟨_, (Option.some.inj h).symm⟩
  · exact ⟨_, (Option.some.inj h).symm⟩
  · exact ⟨_, (Option.some.inj h).symm⟩
  · simp at h
theorem three_ints {ys : List Value} {g : Nat → Int} (hl : ys.length = 3) (hy : ∀ i v, ys[i]? = some v → ∃ t, v = Value.int (g i) t) : ∃ t u z, ys = [Value.int (g 0) t, Value.int (g 1) u, Value.int (g 2) z] := by
  obtain ⟨a, b, c, rfl⟩ := len3 hl
  obtain ⟨t, rfl⟩ := hy 0 a rfl
  obtain ⟨u, rfl⟩ := hy 1 b rfl
  obtain ⟨z, rfl⟩ := hy 2 c rfl
  exact ⟨t, u, z, rfl⟩
theorem words1_odd : True := by
  k_with "CompRest" => ((k_here; (first | with_reducible show LCg.CompRest _ _ _ _ _ _ _ _ _ _ _ _ _ _ _ 3 0 [] _ | with_reducible show LCg.CompRest _ _ _ _ _ _ _ _ _ _ _ _ _ _ _ 5 0 [] _); (refine Stop.go ?_)))
  k_with "subscriptTail Name Name ref int" => ((k_here; (with_reducible show wpAny _ _ (subscriptTail _ _ _ (Value.int (Nat.cast _) _)) _ _ _); k_dflt (first | refine get_five ?_ | refine get_five0 ?_); intros))
  k_with "call ref" => ((k_here; k_dflt (first | refine use1 (sub_spec _ _ _ _ _) ?_ | refine use1 (add_spec _ _ _ _ _) ?_ | refine use1 (half_spec _ _ _ _) ?_); intros))
  k_with "exec If" => ((k_here; (with_reducible show wpAny _ _ (exec (Stmt.If _ _ [Stmt.If _ _ _ _] _) _) _ _ _); (refine Stop.go ?_)))
  exact True.intro

set_option maxHeartbeats 2000000 in
theorem odd_spec (w : World) (lt lo : Addr) (a0 a1 a2 a3 o0 o1 o2 o3 o4 : Int) (t0 t1 t2 t3 u0 u1 u2 u3 u4 : Tok) (e e' : Nat) (hne : @Ne Nat lt lo)
    (l0 : 0 ≤ o0) (l1 : 0 ≤ o1) (l2 : 0 ≤ o2) (l3 : 0 ≤ o3) (l4 : 0 ≤ o4) (g0 : o0 ≤ 4) (g1 : o1 ≤ 4) (g2 : o2 ≤ 4) (g3 : o3 ≤ 4) (g4 : o4 ≤ 4) :
    Spec w 183 3 [.ref lt, .ref lo] [(lt, listOf #[.int a0 t0, .int a1 t1, .int a2 t2, .int a3 t3] e), (lo, listOf #[.int o0 u0, .int o1 u1, .int o2 u2, .int o3 u3, .int o4 u4] e')] (fun v news => news = [] ∧ ∃ t, v = .int (oddP a0 a1 a2 a3 o0 o1 o2 o3 o4) t) := by
  unfold Spec
  w_top off
  k_fill
  intro mean mg mb p loose dp un gd fr base g s R B X T hsz H hdp hu hret
  k_dflt (refine enterC (binds := [("told", .ref lt), ("order", .ref lo)]) (by assumption) (by assumption) (by assumption) (by assumption) (by assumption) (by k_is) (by k_is) (by k_room) (BindsTo.of_eq rfl) rfl (by decide +kernel) ?_ rfl rfl rfl)
  intro L' h' tk' cells' F' N' Y' l1
  (have offK' := off1_of (fun r hr => Nat.ne_of_lt (l1 r hr)))
  (try (replace l1 := allLt_of l1; simp only [AllLt, and_true] at l1))
  k_cells Y'
  (try simp only [List.cons_append, List.nil_append] at N')
  (try dsimp only)
  (try k_fold)
  repeat' (first | (k_unfold; (try dsimp only)) | (k_end; wrow_close) | walk1 | (dsimp only; walk1) | (dsimp only; k_unfold; (try dsimp only)) | (leave1; walk_say "STEP leave1"; (try dsimp only)) | fail "no step")
  unfold Stop
  refine rest_all (fun i v => ∃ t, v = Value.int ((a0 + 2 - w3 a1 a2 a3 i).fdiv 2) t) (.inr ⟨_, by k_mem, rfl, _, rfl⟩) ?turn ?fin
  case turn =>
    intro i v I' oI' C' oC' D' m2' ys' h' tk' E' Q' hi' hv' hC' hx' F' N' off' ne' hc'
    obtain ⟨t9', rfl⟩ := three_at hv'
    clear hv'
    dsimp only at hc'
    repeat' (first | (k_unfold; (try dsimp only)) | (k_end; wrow_close) | walk1 | (dsimp only; walk1) | (dsimp only; k_unfold; (try dsimp only)) | (leave1; walk_say "STEP leave1"; (try dsimp only)) | fail "no step")
    exact hc' _ _ _ ⟨_, rfl⟩ (by k_asm) (News.sub (by k_asm) (by lcg_sub))
  case fin =>
    intro ys' hl' hy'
    obtain ⟨t7', t8', t9', ey'⟩ := three_ints hl' hy'
    subst ey'
    clear hl' hy'
    dsimp only [w3]
    repeat' (first | (k_unfold; (try dsimp only)) | (k_end; wrow_close) | walk1 | (dsimp only; walk1) | (dsimp only; k_unfold; (try dsimp only)) | (leave1; walk_say "STEP leave1"; (try dsimp only)) | fail "no step")
    unfold Stop
    (rename Fr _ _ _ _ => xF')
    (rename News _ _ _ _ => xN')
    refine' if_meet (oddF a0 ((a0 + 2 - a1).fdiv 2) ((a0 + 2 - a2).fdiv 2) ((a0 + 2 - a3).fdiv 2)) xF' xN' ?T ?h ?hk
    case T => kpt_turns
    case h =>
      refine wpAny_If ?_
      repeat' (first | (k_unfold; (try dsimp only)) | (k_end; wrow_close) | walk1 | (dsimp only; walk1) | (dsimp only; k_unfold; (try dsimp only)) | (leave1; walk_say "STEP leave1"; (try dsimp only)) | fail "no step")
      all_goals (refine' ⟨rfl, _, _, _, _, _, ?r, ?d, rfl, ?F, ?N⟩; (case d => assumption); (case F => assumption); (case N => exact News.sub (by k_asm) (by lcg_sub)); (case r => (clear hret; unfold oddF; simp_all)))
    case hk =>
      intro o' t' h' tk' d' F' N'
      repeat' (first | (k_unfold; (try dsimp only)) | (k_end; wrow_close) | walk1 | (dsimp only; walk1) | (dsimp only; k_unfold; (try dsimp only)) | (leave1; walk_say "STEP leave1"; (try dsimp only)) | fail "no step")
      unfold Stop
      refine rest_all (fun i v => ∃ t, v = Value.int (w3 ((a0 + 2 - a1).fdiv 2) ((a0 + 2 - a2).fdiv 2) ((a0 + 2 - a3).fdiv 2) i - oddF a0 ((a0 + 2 - a1).fdiv 2) ((a0 + 2 - a2).fdiv 2) ((a0 + 2 - a3).fdiv 2)) t) (.inr ⟨_, by k_mem, rfl, _, rfl⟩) ?turn ?fin
      case turn =>
        intro i v I' oI' C' oC' D' m2' ys' h' tk' E' Q' hi' hv' hC' hx' F' N' off' ne' hc'
        obtain ⟨t9', rfl⟩ := three_at hv'
        clear hv'
        dsimp only at hc'
        repeat' (first | (k_unfold; (try dsimp only)) | (k_end; wrow_close) | walk1 | (dsimp only; walk1) | (dsimp only; k_unfold; (try dsimp only)) | (leave1; walk_say "STEP leave1"; (try dsimp only)) | fail "no step")
        exact hc' _ _ _ ⟨_, rfl⟩ (by k_asm) (News.sub (by k_asm) (by lcg_sub))
      case fin =>
        intro ys' hl' hy'
        obtain ⟨t7', t8', t9', ey'⟩ := three_ints hl' hy'
        subst ey'
        clear hl' hy'
        dsimp only [w3]
        repeat' (first | (k_unfold; (try dsimp only)) | (k_end; wrow_close) | walk1 | (dsimp only; walk1) | (dsimp only; k_unfold; (try dsimp only)) | (leave1; walk_say "STEP leave1"; (try dsimp only)) | fail "no step")
        unfold Stop
        refine rest_all (fun i v => ∃ t, v = Value.int (w5 (oddF a0 (((a0 + 2 - a1).fdiv 2)) (((a0 + 2 - a2).fdiv 2)) (((a0 + 2 - a3).fdiv 2))) ((a0 + 2 - a1).fdiv 2 - (oddF a0 (((a0 + 2 - a1).fdiv 2)) (((a0 + 2 - a2).fdiv 2)) (((a0 + 2 - a3).fdiv 2)))) ((a0 + 2 - a2).fdiv 2 - (oddF a0 (((a0 + 2 - a1).fdiv 2)) (((a0 + 2 - a2).fdiv 2)) (((a0 + 2 - a3).fdiv 2)))) ((a0 + 2 - a3).fdiv 2 - (oddF a0 (((a0 + 2 - a1).fdiv 2)) (((a0 + 2 - a2).fdiv 2)) (((a0 + 2 - a3).fdiv 2)))) (a0 - ((oddF a0 (((a0 + 2 - a1).fdiv 2)) (((a0 + 2 - a2).fdiv 2)) (((a0 + 2 - a3).fdiv 2))) + (((a0 + 2 - a1).fdiv 2 - (oddF a0 (((a0 + 2 - a1).fdiv 2)) (((a0 + 2 - a2).fdiv 2)) (((a0 + 2 - a3).fdiv 2)))) + (((a0 + 2 - a2).fdiv 2 - (oddF a0 (((a0 + 2 - a1).fdiv 2)) (((a0 + 2 - a2).fdiv 2)) (((a0 + 2 - a3).fdiv 2)))) + (((a0 + 2 - a3).fdiv 2 - (oddF a0 (((a0 + 2 - a1).fdiv 2)) (((a0 + 2 - a2).fdiv 2)) (((a0 + 2 - a3).fdiv 2)))) + 0))))) i * pw (w5 o0 o1 o2 o3 o4 i)) t) trivial ?turn ?fin
        case turn =>
          intro i v I' oI' C' oC' D' m2' ys' h' tk' E' Q' hi' hv' hC' hx' F' N' off' ne' hc'
          obtain ⟨t9', rfl⟩ := hv'
          rw [show (0 + (i : Int)) = ((i : Nat) : Int) by lia] at hx'
          repeat' (first | (k_unfold; (try dsimp only)) | (k_end; wrow_close) | walk1 | (dsimp only; walk1) | (dsimp only; k_unfold; (try dsimp only)) | (leave1; walk_say "STEP leave1"; (try dsimp only)) | fail "no step")
          exact hc' _ _ _ ⟨_, rfl⟩ (by k_asm) (News.sub (by k_asm) (by lcg_sub))
        case fin =>
        intro ys' hl' hy'
        obtain ⟨s0', s1', s2', s3', s4', ey'⟩ := five_ex hl' hy'
        subst ey'
        clear hl' hy'
        dsimp only [w5]
        repeat' (first | (k_unfold; (try dsimp only)) | (k_end; wrow_close) | walk1 | (dsimp only; walk1) | (dsimp only; k_unfold; (try dsimp only)) | (leave1; walk_say "STEP leave1"; (try dsimp only)) | fail "no step")
        exact spec_end hret (by assumption) (by assumption) [] ⟨rfl, _, rfl⟩ (fun _ h => nomatch h)

end

section
theorem words_askop : True := by
  k_with_none
  k_with "k_room" => (first | decide | ((try simp only [depth_under_make, depth_under_kw, depth_in1, depth_deeper, depth_caller]); lia))
  k_with "eval ListComp" => ((k_here; k_dflt (refine LCg.ListComp_U (F₀ := by k_asm) (by with_unfolding_all rfl) (by decide) (by rfl) (by decide) (by rfl) ?_); k_dflt lcg_toSrc))
  k_with "exec Assign cons ListComp" => ((k_here; k_dflt (refine LCg.Assign_ListComp_U (F₀ := by k_asm) (by rfl) (by with_unfolding_all rfl) (by with_unfolding_all rfl) (by decide) (by rfl) (by decide) (by rfl) (by rfl) (by rfl) ?_); k_dflt lcg_toSrc))
  k_with "CompSrc" => ((k_here; k_dflt (first | (refine LCg.CompSrc.ledger (by rfl) (by k_asm) (by k_asm) (by k_mem) (by first | exact Nat.le_of_ble_eq_true rfl | size_fits) ?_; intro g'; lcg_lit) | (refine LCg.CompSrc.range (by rfl) (by k_asm) (by k_asm) (by assumption) (by first | decide | rfl) (by first | rfl | decide) (by first | exact Nat.le_of_ble_eq_true rfl | size_fits) ?_; intro g'; lcg_lit))))
  k_with "binaryOp Pow int int" => ((k_here; with_reducible refine pow_pw ?kb1 ?kb2 ?_; (case kb1 => assumption); (case kb2 => assumption)))
  k_with "binaryOp Mult int int" => ((k_here; with_reducible refine mul_pw ?kb1 ?kb2 ?_; (case kb1 => assumption); (case kb2 => assumption)))
  k_with "binaryOp BitXor int int" => ((k_here; with_reducible refine xor_xr ?_))
  k_with "CompRest" => ((with_unfolding_all first | (refine LCg.CompRest.succ ?_; intro v' I' oI' C' oC' D' m' h' tk' E' hv' hC' hx' F' N' off' ne'; (first | lcg_open hv' | (obtain ⟨t9', hv9'⟩ := hv'; subst hv9')); (obtain ⟨neIC', neID', neCD'⟩ := ne')) | refine LCg.CompRest.zero ?_))
  k_with "lcg_off" => (with_reducible assumption)
  k_with "CompEnd" => (lcg_end)
  k_with "eval Name" => ((k_here; k_dflt (first
  | (refine' nameX_L ?F ?v ?_ ?a ?b; (case F => k_asm); (case a => rfl); (case b => rfl); (case v => rfl); k_whole)
  | (refine' nameX_C ?N ?c ?m ?d ?_ ?a ?b; (case a => rfl); (case b => rfl); (case N => k_asm); (case c => rfl); (case m => k_mem); (case d => k_asm); k_whole)
  | (refine' nameX_K ?F ?X ?T ?e ?_ ?a ?b; (case F => k_asm); (case X => k_asm); (case T => k_asm); (case a => rfl); (case b => rfl); (case e => k_is); k_whole))))
  k_with "eval Name" => ((k_here; (with_reducible show wpAny _ _ (eval (PySem.Expr.Name _ _) (compEnvC _ _ _ _)) _ _ _); k_dflt (first
  | (refine LCgL.ld_own (by k_asm) (by k_mem) (by assumption) (by assumption) ?_)
  | (refine' lcf_cell ?N ?c ?m ?d ?_ ?a ?b; (case a => rfl); (case b => rfl); (case N => k_asm); (case c => rfl); (case m => k_mem); (case d => k_asm); k_whole)
  | (refine' lcf_free ?N ?c ?m ?d ?_ ?a ?b; (case a => rfl); (case b => rfl); (case N => k_asm); (case c => rfl); (case m => k_mem); (case d => k_asm); k_whole)
  | (refine LCgL.ld_global (by k_asm) (by k_asm) (by k_asm) (by k_is) ?_))))
  k_with "FinE" => (((unfold LCg.FinE); intro D' h' tk' F' N' oq9'; (try simp only [List.nil_append, List.cons_append] at N'); (try dsimp only)))
  k_with "FinA" => (((unfold LCg.FinA); intro D' h' tk' F' N' oq9'; (try simp only [List.nil_append, List.cons_append] at N'); (try dsimp only)))
  k_with "k_ne" => (((try dsimp only); first
  | (with_reducible assumption)
  | (with_reducible exact Ne.symm (by assumption))
  | (refine' off1_ne ?nh ?nm; (case nh => with_reducible assumption); (case nm => k_mem))
  | (refine' off1_ne' ?nh ?nm; (case nh => with_reducible assumption); (case nm => k_mem))
  | (refine' off3_I ?nh ?nm; (case nh => with_reducible assumption); (case nm => k_mem))
  | (refine' off3_C ?nh ?nm; (case nh => with_reducible assumption); (case nm => k_mem))
  | (refine' off3_D ?nh ?nm; (case nh => with_reducible assumption); (case nm => k_mem))
  | (refine' off3_I' ?nh ?nm; (case nh => with_reducible assumption); (case nm => k_mem))
  | (refine' off3_C' ?nh ?nm; (case nh => with_reducible assumption); (case nm => k_mem))
  | (refine' off3_D' ?nh ?nm; (case nh => with_reducible assumption); (case nm => k_mem))
  | (refine' two_ne ?nh ?nm; (case nh => with_reducible assumption); (case nm => tb_start))
  | (refine' two_ne' ?nh ?nm; (case nh => with_reducible assumption); (case nm => tb_start))
  | (refine neN ?_; lia)))
  k_with "tb_start" => (first | (refine' Two.head ?th; (case th => k_mem)) | (refine' Two.tail ?tw; (case tw => tb_start)))
  k_with "call builtin:list.append" => ((k_here; (with_reducible show wpAny _ _ (PySem.call (Value.builtin _) [Value.ref _, _]) _ _ _); k_dflt (refine append_lit (by k_asm) (by k_asm) (by kl_lit) (by k_upd) (by kl_room) ?_); kl_rest))
  k_with "subscriptTail" => ((k_here; (with_reducible show wpAny _ _ (subscriptTail _ _ (Value.ref _) (Value.int _ _)) _ _ _); k_dflt (refine item_N (by k_asm) (by k_mem) (by decide) (by decide) rfl ?_ (by with_unfolding_all rfl))))
  k_with "subscriptTail Name Name ref int" => ((walk_at "subscriptTail"))
  k_with "subscriptTail Name Constant ref int" => ((walk_at "subscriptTail"))
  k_with "getItem ref int" => ((k_here; k_dflt (refine getItem_N (by k_asm) (by k_mem) (by decide) (by decide) rfl ?_)))
  k_with "getMethod ref" => ((k_here; (with_reducible show wpAny _ _ (getMethod (Value.ref _) (PySem.Str.ofString "read") _) _ _ _); k_dflt (refine kmu_own (by k_asm) (by k_asm) (by k_inst) (by k_is) (by k_is) ?_)))
  k_with "And" => (((with_reducible show FnAt _ _ ∧ _); refine ⟨FnAt.of (by k_asm) (by k_mem), ?_⟩; (try dsimp only [List.nil_append, List.cons_append])))
  k_with "k_mem" => (first | exact List.Mem.head _ | exact mem1 | exact mem2 | exact mem3 | exact mem4 | exact mem5 | exact mem6 | exact mem7 | (refine' mem8 ?_; k_mem))
  k_with "lcg_sub" => (first | exact sub_nil | (refine sub_cons (by k_mem) ?_; lcg_sub))
  k_with "kpt_turns" => (first | exact Take.head | exact tk1 | exact tk2 | exact tk3 | (refine' tk4 ?tk; (case tk => kpt_turns)))
  k_with "tb_rel" => (first | exact Pick.nil | (refine' Pick.cons ?pt ?pk; (case pt => kpt_turns); (case pk => tb_rel)))
  k_with "ktm_same2" => (first | exact True.intro | (refine off1_cons (by k_ne) ?_; ktm_same2))
  k_with "ktr_rel" => (first | exact True.intro | (refine And.intro (by ktm_same2) ?_; ktr_rel))
  k_with "ktr_room" => (first | decide | ((try simp only [depth_under_make, depth_under_kw, depth_in1, depth_deeper, depth_caller] at *); lia))
  k_with "truthy ref" => ((k_here; (with_reducible show wpAny _ _ (truthy (Value.ref _)) _ _ _); k_dflt (first
  | (refine truthy_cons (by k_asm) (by k_mem) (by with_reducible assumption) ?_)
  | (refine truthy_nil (by k_asm) (by k_mem) ?_))))
  k_with "call builtin:list.pop" => ((k_here; (with_reducible show wpAny _ _ (PySem.call (Value.builtin _) [Value.ref _, Value.int 0 _]) _ _ _); k_dflt (refine pop0_cons (by k_asm) (by k_asm) (by k_upd) (by with_reducible assumption) ?_); kl_rest))
  k_with "execs cons" => ((k_here; k_fold))
  exact True.intro

section
variable {prog : Program} {w : World} {A : Around} {E : Value → Shared → Prop} {s : Shared} {h₀ : Heap} {L D : Addr} {m : PySem.Str → Option Value} {vs : List Value} {n k : Nat} {u : Tok} {v : Value} {value slice : PySem.Expr} {Q : Value → Shared → Prop}
theorem get_kept (F : Fr h₀ L s.heap m) (hg : h₀.get? D = some (listOf vs.toArray n)) (hv : vs[k]? = some v) (hM : k ≤ 1000) (h : Q v s)
    (hs : subscripted slice false (.ref D) (.int (k : Int) u) = operate [.ref D, .int (k : Int) u] (getItem (.ref D) (.int (k : Int) u)) := by with_unfolding_all rfl) :
    wpAny (model prog w) A (subscriptTail value slice (.ref D) (.int (k : Int) u)) Q E s :=
  tail_any ⟨_, F.keep _ _ hg, rfl⟩ slot_list_getitem.lookup (wpAny_getItem_list ⟨_, F.keep _ _ hg, rfl, _, rfl⟩ (by lia) (by lia) (by rw [Int.toNat_natCast, List.getElem?_toArray]; exact hv) h) hs
end
section
theorem words1_askop : True := by
  k_with "binaryOp RShift int int" => ((k_here; k_dflt (refine shr_nat ?_)))
  k_with "binaryOp BitAnd int int" => ((k_here; k_dflt (refine and_nat ?_)))
  k_with "binaryOp BitXor int int" => ((k_here; k_dflt (refine xor_nat (by with_reducible assumption) (by with_reducible assumption) ?_)))
  k_with "subscriptTail Name Name ref int" => ((k_here; k_dflt (refine get_kept (by k_asm) (by k_asm) (by k_asm) (by k_asm) ?_)))
  exact True.intro

theorem rsh_spec (w : World) (k : Nat) (t u : Tok) : Spec w 112 1 [.int (k : Int) t, .int 1 u] [] (fun v news => news = [] ∧ ∃ t', v = .int ((k / 2 : Nat) : Int) t') := by
  unfold Spec
  w_top off
  k_fill
  intro mean mg mb p loose dp un gd fr base g s R B X T hsz H hdp hu hret
  k_dflt (refine enter (binds := [("a", .int (k : Int) t), ("b", .int 1 u)]) (by assumption) (by assumption) (by assumption) (by assumption) (by assumption) (by k_is) (by k_is) (by k_room) (BindsTo.of_eq rfl) (locs rfl) ?_ rfl rfl rfl (by decide))
  intro L' h' F' N' l1
  (have offK' := off1_of (fun r hr => Nat.ne_of_lt (l1 r hr)))
  (try (replace l1 := allLt_of l1; simp only [AllLt, and_true] at l1))
  (try dsimp only [List.length_cons, List.length_nil, List.reverse_cons, List.reverse_nil, List.nil_append, List.cons_append])
  (try k_fold)
  repeat' (first | (k_unfold; (try dsimp only)) | (k_end; wrow_close) | walk1 | (dsimp only; walk1) | (dsimp only; k_unfold; (try dsimp only)) | (leave1; walk_say "STEP leave1"; (try dsimp only)) | fail "no step")
  exact spec_end hret (by assumption) (by assumption) [] ⟨rfl, _, rfl⟩ (fun _ h => nomatch h)
theorem band_spec (w : World) (k : Nat) (t u : Tok) : Spec w 98 1 [.int (k : Int) t, .int 1 u] [] (fun v news => news = [] ∧ ∃ t', v = .int ((k % 2 : Nat) : Int) t') := by
  unfold Spec
  w_top off
  k_fill
  intro mean mg mb p loose dp un gd fr base g s R B X T hsz H hdp hu hret
  k_dflt (refine enter (binds := [("a", .int (k : Int) t), ("b", .int 1 u)]) (by assumption) (by assumption) (by assumption) (by assumption) (by assumption) (by k_is) (by k_is) (by k_room) (BindsTo.of_eq rfl) (locs rfl) ?_ rfl rfl rfl (by decide))
  intro L' h' F' N' l1
  (have offK' := off1_of (fun r hr => Nat.ne_of_lt (l1 r hr)))
  (try (replace l1 := allLt_of l1; simp only [AllLt, and_true] at l1))
  (try dsimp only [List.length_cons, List.length_nil, List.reverse_cons, List.reverse_nil, List.nil_append, List.cons_append])
  (try k_fold)
  repeat' (first | (k_unfold; (try dsimp only)) | (k_end; wrow_close) | walk1 | (dsimp only; walk1) | (dsimp only; k_unfold; (try dsimp only)) | (leave1; walk_say "STEP leave1"; (try dsimp only)) | fail "no step")
  exact spec_end hret (by assumption) (by assumption) [] ⟨rfl, _, rfl⟩ (fun _ h => nomatch h)
theorem bxor_spec (w : World) (k j : Nat) (hk : k < 32) (hj : j < 32) (t u : Tok) : Spec w 126 1 [.int (k : Int) t, .int (j : Int) u] [] (fun v news => news = [] ∧ ∃ t', v = .int ((k ^^^ j : Nat) : Int) t') := by
  unfold Spec
  w_top off
  k_fill
  intro mean mg mb p loose dp un gd fr base g s R B X T hsz H hdp hu hret
  k_dflt (refine enter (binds := [("a", .int (k : Int) t), ("b", .int (j : Int) u)]) (by assumption) (by assumption) (by assumption) (by assumption) (by assumption) (by k_is) (by k_is) (by k_room) (BindsTo.of_eq rfl) (locs rfl) ?_ rfl rfl rfl (by decide))
  intro L' h' F' N' l1
  (have offK' := off1_of (fun r hr => Nat.ne_of_lt (l1 r hr)))
  (try (replace l1 := allLt_of l1; simp only [AllLt, and_true] at l1))
  (try dsimp only [List.length_cons, List.length_nil, List.reverse_cons, List.reverse_nil, List.nil_append, List.cons_append])
  (try k_fold)
  repeat' (first | (k_unfold; (try dsimp only)) | (k_end; wrow_close) | walk1 | (dsimp only; walk1) | (dsimp only; k_unfold; (try dsimp only)) | (leave1; walk_say "STEP leave1"; (try dsimp only)) | fail "no step")
  exact spec_end hret (by assumption) (by assumption) [] ⟨rfl, _, rfl⟩ (fun _ h => nomatch h)
theorem beq_spec (w : World) (a b : Int) (t u : Tok) : Spec w 77 1 [.int a t, .int b u] [] (fun v news => news = [] ∧ v = .bool (decide (a = b))) := by
  unfold Spec
  w_top off
  k_fill
  intro mean mg mb p loose dp un gd fr base g s R B X T hsz H hdp hu hret
  k_dflt (refine enter (binds := [("a", .int a t), ("b", .int b u)]) (by assumption) (by assumption) (by assumption) (by assumption) (by assumption) (by k_is) (by k_is) (by k_room) (BindsTo.of_eq rfl) (locs rfl) ?_ rfl rfl rfl (by decide))
  intro L' h' F' N' l1
  (have offK' := off1_of (fun r hr => Nat.ne_of_lt (l1 r hr)))
  (try (replace l1 := allLt_of l1; simp only [AllLt, and_true] at l1))
  (try dsimp only [List.length_cons, List.length_nil, List.reverse_cons, List.reverse_nil, List.nil_append, List.cons_append])
  (try k_fold)
  repeat' (first | (k_unfold; (try dsimp only)) | (k_end; wrow_close) | walk1 | (dsimp only; walk1) | (dsimp only; k_unfold; (try dsimp only)) | (leave1; walk_say "STEP leave1"; (try dsimp only)) | fail "no step")
  exact spec_end hret (by assumption) (by assumption) [] ⟨rfl, congrArg Value.bool (by by_cases c : a = b <;> simp [c])⟩ (fun _ h => nomatch h)
/-- a list is read, nothing is touched -/
theorem gi_spec (w : World) (D : Addr) (vs : List Value) (n k : Nat) (u : Tok) (v : Value) (hv : vs[k]? = some v) (hM : k ≤ 1000) {mean : ExcName → Option Value} {mg mb : PySem.Str → Option Value} {p : Program} {loose : List PySem.Str} {dp un : Nat} {gd : Option (List Code)} {fr : List Env}
    {base g : Heap} {s : Shared} {R : Result → Shared → Prop} (B : Below (aro dp un gd fr) base fr g) (X : (hd.heap_19 w.params).In g) (T : Top p loose mean mg mb g) (hsz : g.objs.size ≤ s.heap.objs.size) (H : Holds g s.heap [])
    (hg : g.get? D = some (listOf vs.toArray n)) (hdp : dp + 1 < recursionLimit) (hu : un + 8 < cLine)
    (hret : ∀ h' tk', Holds g h' [] → R (.ok (.ret v)) { s with heap := h', toks := tk' }) :
    codeAny (model PySem.Challenge.rw_sw0028_01.row.prog w) (aro dp un gd fr) (.call (.ref 140) ⟨[.ref D, .int (k : Int) u], []⟩) R s := by
  w_top off
  k_fill
  k_dflt (refine enter (binds := [("a", .ref D), ("b", .int (k : Int) u)]) (by assumption) (by assumption) (by assumption) (by assumption) (by assumption) (by k_is) (by k_is) (by k_room) (BindsTo.of_eq rfl) (locs rfl) ?_ rfl rfl rfl (by decide))
  intro L' h' F' N' l1
  (have offK' := off1_of (fun r hr => Nat.ne_of_lt (l1 r hr)))
  (try (replace l1 := allLt_of l1; simp only [AllLt, and_true] at l1))
  (try dsimp only [List.length_cons, List.length_nil, List.reverse_cons, List.reverse_nil, List.nil_append, List.cons_append])
  (try k_fold)
  repeat' (first | (k_unfold; (try dsimp only)) | (k_end; wrow_close) | walk1 | (dsimp only; walk1) | (dsimp only; k_unfold; (try dsimp only)) | (leave1; walk_say "STEP leave1"; (try dsimp only)) | fail "no step")
  exact hret _ _ (.of (by assumption) (by assumption) (fun _ h => nomatch h))
end
section
variable {w : World} {x dx st dst f c' cell sl pb D : Addr} {k1 k2 k3 k4 j1 j2 j3 j4 j5 tw jl jw tl : Tok} {jln ln : Int} {jws : PySem.Str} {jpb : Value}
    {name qual : PySem.Str} {P : Arguments} {Bd : PySem.Expr} {Sc : Scope} {cl : List (PySem.Str × Addr)} {pm ctv : Value} {oc ocell : Obj} {cs : List Nat} {way : Int} {vs rest : List Value} {n e k M : Nat} {ins v : Value} {ws : PySem.Str} {t u : Tok} {a b : Int} {fn : Nat → Int}
    {mean : ExcName → Option Value} {mg mb : PySem.Str → Option Value} {p : Program} {loose : List PySem.Str} {dp un : Nat} {gd : Option (List Code)} {env : Env} {outer : List Env}
    {A₀ : Around} {base h₀ : Heap} {L : Addr} {m : PySem.Str → Option Value} {news ol : List (Addr × Obj)} {s : Shared} {Q E : Value → Shared → Prop}
theorem toka_at
    (h : ∀ t tl' n' h' tk', Fr h₀ L h' m → News h₀ L h' ((pb, listOf #[] e) :: (x, instObj 66 dx) :: (dx, lexDict w k1 k2 k3 k4 (.int (ln + (((wrt cs way).count 10 : Nat) : Int)) tl') (.ref st) (.str (PySem.Str.ofString "\n\t\r ") tw) (.ref pb)) :: (st, instObj 66 dst) :: (dst, strDict w j1 j2 j3 j4 j5 (.int jln jl) .none (.str jws jw) jpb (.ref f)) :: (f, kla_obj name qual P Bd Sc cl pm c' ctv) :: (c', oc) :: (cell, ocell) :: (sl, listOf rest.toArray n') :: ol) → Q (.str (tx cs) t) { s with heap := h', toks := tk' })
    (hap : Apart [x, dx, st, dst, f, c', cell, sl, pb] := by exact ApB.h (by with_reducible assumption)) (HR : Lam w f c' cell sl name qual P Bd Sc cl pm ctv oc ocell := by assumption)
    (B : Below A₀ base outer h₀ := by k_asm) (F : Fr h₀ L s.heap m := by k_asm) (X : (hd.heap_19 w.params).In h₀ := by k_asm) (N : News h₀ L s.heap news := by k_asm) (T : Top p loose mean mg mb h₀ := by k_asm)
    (hf : env.frame = some L := by exact rfl) (hke : env.scope.kind = .function := by exact rfl)
    (hpick : Pick ((pb, listOf #[] e) :: (x, instObj 66 dx) :: (dx, lexDict w k1 k2 k3 k4 (.int ln tl) (.ref st) (.str (PySem.Str.ofString "\n\t\r ") tw) (.ref pb)) :: (st, instObj 66 dst) :: (dst, strDict w j1 j2 j3 j4 j5 (.int jln jl) .none (.str jws jw) jpb (.ref f)) :: (f, kla_obj name qual P Bd Sc cl pm c' ctv) :: (c', oc) :: (cell, ocell) :: (sl, listOf (vs ++ rest).toArray n) :: []) news ol := by tb_rel) (hS : Sg vs (wrt cs way) := by with_reducible assumption) (hcs : 0 < cs.length := by lia) (hc2 : cs.length ≤ 100 := by lia) (hz : (vs ++ rest).length ≤ 900 := by (try simp only [List.length_append]); lia) (hap2 : AllOff ((pb, listOf #[] e) :: (x, instObj 66 dx) :: (dx, lexDict w k1 k2 k3 k4 (.int ln tl) (.ref st) (.str (PySem.Str.ofString "\n\t\r ") tw) (.ref pb)) :: (st, instObj 66 dst) :: (dst, strDict w j1 j2 j3 j4 j5 (.int jln jl) .none (.str jws jw) jpb (.ref f)) :: (f, kla_obj name qual P Bd Sc cl pm c' ctv) :: (c', oc) :: (cell, ocell) :: (sl, listOf (vs ++ rest).toArray n) :: []) ol := by ktr_rel)
    (hd : dp + 3 < recursionLimit := by ktr_room) (hu : un + 8 * 3 < cLine := by ktr_room) :
    wpAny (model PySem.Challenge.rw_sw0028_01.row.prog w) (aro dp un gd (env :: outer)) (PySem.call (.ref 56) [.ref x]) Q E s :=
  spec_at (toka_spec w x dx st dst f c' cell sl pb k1 k2 k3 k4 j1 j2 j3 j4 j5 tw jl jw tl jln jws jpb name qual P Bd Sc cl pm ctv oc ocell ln n e cs way vs rest hap HR hcs hc2 hS hz) B F X N T hf hke hpick hap2 hd hu fun v n' h' tk' pp F' N' _ => by
    obtain ⟨⟨t, rfl⟩, tl', nn', rfl⟩ := pp
    exact h t tl' nn' h' tk' F' N'
theorem tokl_at
    (h : ∀ h' tk', Fr h₀ L h' m → News h₀ L h' ((x, instObj 66 dx) :: (dx, lexDict w k1 k2 k3 k4 (.int ln tl) ins (.str ws tw) (.ref pb)) :: (pb, listOf rest.toArray (n + 1)) :: ol) → Q v { s with heap := h', toks := tk' })
    (hap : Apart [x, dx, pb] := by exact ApB.h (by with_reducible assumption))
    (B : Below A₀ base outer h₀ := by k_asm) (F : Fr h₀ L s.heap m := by k_asm) (X : (hd.heap_19 w.params).In h₀ := by k_asm) (N : News h₀ L s.heap news := by k_asm) (T : Top p loose mean mg mb h₀ := by k_asm)
    (hf : env.frame = some L := by exact rfl) (hke : env.scope.kind = .function := by exact rfl)
    (hpick : Pick ((x, instObj 66 dx) :: (dx, lexDict w k1 k2 k3 k4 (.int ln tl) ins (.str ws tw) (.ref pb)) :: (pb, listOf (v :: rest).toArray n) :: []) news ol := by tb_rel) (hb : rest.length ≤ 1000 := by first | lia | exact Nat.le_of_ble_eq_true rfl) (hap2 : AllOff ((x, instObj 66 dx) :: (dx, lexDict w k1 k2 k3 k4 (.int ln tl) ins (.str ws tw) (.ref pb)) :: (pb, listOf (v :: rest).toArray n) :: []) ol := by ktr_rel)
    (hd : dp + 1 < recursionLimit := by ktr_room) (hu : un + 8 * 1 < cLine := by ktr_room) :
    wpAny (model PySem.Challenge.rw_sw0028_01.row.prog w) (aro dp un gd (env :: outer)) (PySem.call (.ref 56) [.ref x]) Q E s :=
  spec_at (tokl_spec w x dx pb k1 k2 k3 k4 tl tw ln ins ws v rest n hap hb) B F X N T hf hke hpick hap2 hd hu fun v n' h' tk' pp F' N' _ => by
    obtain ⟨rfl, rfl⟩ := pp
    exact h h' tk' F' N'
theorem push_at
    (h : ∀ h' tk', Fr h₀ L h' m → News h₀ L h' ((x, instObj 66 dx) :: (dx, lexDict w k1 k2 k3 k4 (.int ln tl) ins (.str ws tw) (.ref pb)) :: (pb, listOf (rest ++ [v]).toArray (n + 1)) :: ol) → Q .none { s with heap := h', toks := tk' })
    (hap : Apart [x, dx, pb] := by exact ApB.h (by with_reducible assumption))
    (B : Below A₀ base outer h₀ := by k_asm) (F : Fr h₀ L s.heap m := by k_asm) (X : (hd.heap_19 w.params).In h₀ := by k_asm) (N : News h₀ L s.heap news := by k_asm) (T : Top p loose mean mg mb h₀ := by k_asm)
    (hf : env.frame = some L := by exact rfl) (hke : env.scope.kind = .function := by exact rfl)
    (hpick : Pick ((x, instObj 66 dx) :: (dx, lexDict w k1 k2 k3 k4 (.int ln tl) ins (.str ws tw) (.ref pb)) :: (pb, listOf rest.toArray n) :: []) news ol := by tb_rel) (hb : rest.length ≤ 1000 := by lia) (hap2 : AllOff ((x, instObj 66 dx) :: (dx, lexDict w k1 k2 k3 k4 (.int ln tl) ins (.str ws tw) (.ref pb)) :: (pb, listOf rest.toArray n) :: []) ol := by ktr_rel)
    (hd : dp + 1 < recursionLimit := by ktr_room) (hu : un + 8 * 1 < cLine := by ktr_room) :
    wpAny (model PySem.Challenge.rw_sw0028_01.row.prog w) (aro dp un gd (env :: outer)) (PySem.call (.ref 63) [.ref x, v]) Q E s :=
  spec_at (push_spec w x dx pb k1 k2 k3 k4 tl tw ln ins ws v rest n hap hb) B F X N T hf hke hpick hap2 hd hu fun v n' h' tk' pp F' N' _ => by
    obtain ⟨rfl, rfl⟩ := pp
    exact h h' tk' F' N'
theorem beq_at
    (h1 : a = b → ∀ h' tk', Fr h₀ L h' m → News h₀ L h' news → Q (.bool true) { s with heap := h', toks := tk' }) (h2 : a ≠ b → ∀ h' tk', Fr h₀ L h' m → News h₀ L h' news → Q (.bool false) { s with heap := h', toks := tk' })
    (B : Below A₀ base outer h₀ := by k_asm) (F : Fr h₀ L s.heap m := by k_asm) (X : (hd.heap_19 w.params).In h₀ := by k_asm) (N : News h₀ L s.heap news := by k_asm) (T : Top p loose mean mg mb h₀ := by k_asm)
    (hf : env.frame = some L := by exact rfl) (hke : env.scope.kind = .function := by exact rfl)
    (hd : dp + 1 < recursionLimit := by ktr_room) (hu : un + 8 * 1 < cLine := by ktr_room) :
    wpAny (model PySem.Challenge.rw_sw0028_01.row.prog w) (aro dp un gd (env :: outer)) (PySem.call (.ref 77) [.int a t, .int b u]) Q E s :=
  spec_at (beq_spec w a b t u) B F X N T hf hke Pick.nil True.intro hd hu fun v n' h' tk' pp F' N' _ => by
    obtain ⟨rfl, rfl⟩ := pp
    by_cases c : a = b
    · rw [decide_eq_true c]; exact h1 c h' tk' F' N'
    · rw [decide_eq_false c]; exact h2 c h' tk' F' N'
theorem gi_at
    (h : ∀ t h' tk', Fr h₀ L h' m → News h₀ L h' news → Q (.int (fn k) t) { s with heap := h', toks := tk' })
    (hR : RowL vs M fn := by with_reducible assumption) (hk : k < M := by first | with_reducible assumption | lia) (hM : M ≤ 1000 := by first | decide | lia)
    (B : Below A₀ base outer h₀ := by k_asm) (F : Fr h₀ L s.heap m := by k_asm) (X : (hd.heap_19 w.params).In h₀ := by k_asm) (N : News h₀ L s.heap news := by k_asm) (T : Top p loose mean mg mb h₀ := by k_asm)
    (hf : env.frame = some L := by exact rfl) (hke : env.scope.kind = .function := by exact rfl)
    (hm : (D, listOf vs.toArray n) ∈ news := by k_mem)
    (hd : dp + 1 < recursionLimit := by ktr_room) (hu : un + 8 * 1 < cLine := by ktr_room) :
    wpAny (model PySem.Challenge.rw_sw0028_01.row.prog w) (aro dp un gd (env :: outer)) (PySem.call (.ref 140) [.ref D, .int (k : Int) u]) Q E s :=
  by
  obtain ⟨t, hv⟩ := hR.2 k hk
  have N' : News h₀ L s.heap [] := fun q hq => nomatch hq
  obtain ⟨FG, BG, st, _⟩ := groundX (A := aro dp un gd (env :: outer)) (R := fun _ _ => True) B F N' rfl hf hke
  refine wpAny_call (gi_spec w D vs n k u (.int (fn k) t) hv (by lia) ⟨rfl, BG.stays, BG.frames⟩ (X.keeps fun b o e => st b o e) (T.keeps fun b o e => st b o e) (Nat.le_of_eq (hideAll_size _ _)) ⟨fun b o e => of_hideAll _ e, fun q hq => nomatch hq⟩
    (hideAll_get _ (N _ hm).1 fun q => nomatch q) hd hu fun h' tk' H => h t h' tk' ?_ ?_)
  · obtain ⟨oL, es, ep, hL, r⟩ := FG.ns
    exact ⟨⟨oL, es, ep, H.keep _ _ hL, r⟩, fun b o e => H.keep b o (st b o e), F.above⟩
  · exact fun q hq => ⟨H.keep _ _ (hideAll_get _ (N q hq).1 fun q => nomatch q), (N q hq).2⟩
end
/-- the line's number behind the first words -/
noncomputable def lnS (W : Nat → List Nat) (way : Nat → Int) (ln : Int) : Nat → Int
  | 0 => ln
  | i + 1 => lnS W way ln i + (((wrt (W i) (way i)).count 10 : Nat) : Int)
/-- what is left of the signs, ahead of a word -/
inductive Rem (W : Nat → List Nat) (way : Nat → Int) (rest : List Value) : Nat → List Value → Prop
  | nil : Rem W way rest 5 rest
  | cons {i : Nat} {v us : List Value} : Sg v (wrt (W i) (way i)) → Rem W way rest (i + 1) us → Rem W way rest i (v ++ us)
theorem Rem.next {W : Nat → List Nat} {way : Nat → Int} {rest us : List Value} {i : Nat} {G : List Value → Prop} (h : Rem W way rest i us) (hi : i < 5) (k : ∀ v us, Sg v (wrt (W i) (way i)) → Rem W way rest (i + 1) us → G (v ++ us)) : G us := by
  cases h with
  | nil => exact absurd hi (by decide)
  | cons a b => exact k _ _ a b
theorem Rem.end {W : Nat → List Nat} {way : Nat → Int} {rest us : List Value} {G : List Value → Prop} (h : Rem W way rest 5 us) (hl : ∀ us i, Rem W way rest i us → i ≤ 5) (k : G rest) : G us := by
  cases h with
  | nil => exact k
  | cons a b => exact absurd (hl _ _ b) (by decide)
theorem Rem.le {W : Nat → List Nat} {way : Nat → Int} {rest : List Value} : ∀ us i, Rem W way rest i us → i ≤ 5 := by
  intro us i h
  induction h with
  | nil => exact Nat.le_refl 5
  | cons _ _ ih => lia
/-- ahead of each word -/
inductive WInv (w : World) (x dx st dst f c' cell sl pb : Addr) (k1 k2 k3 k4 j1 j2 j3 j4 j5 tw jl jw : Tok) (jln : Int) (jws : PySem.Str) (jpb : Value)
    (name qual : PySem.Str) (P : Arguments) (Bd : PySem.Expr) (Sc : Scope) (cl : List (PySem.Str × Addr)) (pm ctv : Value) (oc ocell : Obj) (ln : Int) (e : Nat) (W : Nat → List Nat) (way : Nat → Int) (rest : List Value) (a b c : Addr × Obj) (ol : List (Addr × Obj)) :
    Nat → List Value → List (Addr × Obj) → Prop
  | mk (i ys us tl n) : Rem W way rest i us → us.length ≤ 900 → ys.length = i → (∀ k, k < i → ∃ t, ys[k]? = some (Value.str (tx (W k)) t)) →
      WInv w x dx st dst f c' cell sl pb k1 k2 k3 k4 j1 j2 j3 j4 j5 tw jl jw jln jws jpb name qual P Bd Sc cl pm ctv oc ocell ln e W way rest a b c ol i ys (a :: b :: c :: (pb, listOf #[] e) :: (x, instObj 66 dx) :: (dx, lexDict w k1 k2 k3 k4 (.int (lnS W way ln i) tl) (.ref st) (.str (PySem.Str.ofString "\n\t\r ") tw) (.ref pb)) :: (st, instObj 66 dst) :: (dst, strDict w j1 j2 j3 j4 j5 (.int jln jl) .none (.str jws jw) jpb (.ref f)) :: (f, kla_obj name qual P Bd Sc cl pm c' ctv) :: (c', oc) :: (cell, ocell) :: (sl, listOf us.toArray n) :: ol)
theorem strs_snoc {W : Nat → List Nat} {ys : List Value} {i : Nat} {t : Tok} (hl : ys.length = i) (h : ∀ k, k < i → ∃ t, ys[k]? = some (Value.str (tx (W k)) t)) : ∀ k, k < i + 1 → ∃ u, (ys ++ [Value.str (tx (W i)) t])[k]? = some (Value.str (tx (W k)) u) := fun k hk => by
  by_cases e : k = i
  · subst e
    exact ⟨t, by rw [List.getElem?_append_right (by lia), hl, Nat.sub_self]; rfl⟩
  · obtain ⟨u, e'⟩ := h k (by lia)
    exact ⟨u, by rw [List.getElem?_append_left (by lia)]; exact e'⟩
theorem WInv.five {w : World} {x dx st dst f c' cell sl pb : Addr} {k1 k2 k3 k4 j1 j2 j3 j4 j5 tw jl jw : Tok} {jln : Int} {jws : PySem.Str} {jpb : Value}
    {name qual : PySem.Str} {P : Arguments} {Bd : PySem.Expr} {Sc : Scope} {cl : List (PySem.Str × Addr)} {pm ctv : Value} {oc ocell : Obj} {ln : Int} {e : Nat} {W : Nat → List Nat} {way : Nat → Int} {rest : List Value} {a b c : Addr × Obj} {ol : List (Addr × Obj)}
    {ys : List Value} {nw : List (Addr × Obj)} {G : List Value → List (Addr × Obj) → Prop} (h : WInv w x dx st dst f c' cell sl pb k1 k2 k3 k4 j1 j2 j3 j4 j5 tw jl jw jln jws jpb name qual P Bd Sc cl pm ctv oc ocell ln e W way rest a b c ol 5 ys nw)
    (k : ∀ ys tl n, WordsL ys W → G ys (a :: b :: c :: (pb, listOf #[] e) :: (x, instObj 66 dx) :: (dx, lexDict w k1 k2 k3 k4 (.int (ln + (((wrt (W 0) (way 0)).count 10 : Nat) : Int) + (((wrt (W 1) (way 1)).count 10 : Nat) : Int) + (((wrt (W 2) (way 2)).count 10 : Nat) : Int) + (((wrt (W 3) (way 3)).count 10 : Nat) : Int) + (((wrt (W 4) (way 4)).count 10 : Nat) : Int)) tl) (.ref st) (.str (PySem.Str.ofString "\n\t\r ") tw) (.ref pb)) :: (st, instObj 66 dst) :: (dst, strDict w j1 j2 j3 j4 j5 (.int jln jl) .none (.str jws jw) jpb (.ref f)) :: (f, kla_obj name qual P Bd Sc cl pm c' ctv) :: (c', oc) :: (cell, ocell) :: (sl, listOf rest.toArray n) :: ol)) : G ys nw := by
  cases h with
  | mk us tl n hr _ hl hy =>
    refine hr.end (G := fun us => G ys (a :: b :: c :: (pb, listOf #[] e) :: (x, instObj 66 dx) :: (dx, lexDict w k1 k2 k3 k4 (.int (ln + (((wrt (W 0) (way 0)).count 10 : Nat) : Int) + (((wrt (W 1) (way 1)).count 10 : Nat) : Int) + (((wrt (W 2) (way 2)).count 10 : Nat) : Int) + (((wrt (W 3) (way 3)).count 10 : Nat) : Int) + (((wrt (W 4) (way 4)).count 10 : Nat) : Int)) tl) (.ref st) (.str (PySem.Str.ofString "\n\t\r ") tw) (.ref pb)) :: (st, instObj 66 dst) :: (dst, strDict w j1 j2 j3 j4 j5 (.int jln jl) .none (.str jws jw) jpb (.ref f)) :: (f, kla_obj name qual P Bd Sc cl pm c' ctv) :: (c', oc) :: (cell, ocell) :: (sl, listOf us.toArray n) :: ol)) Rem.le ?_
    exact k ys tl n ⟨hl, hy⟩
theorem WInv.turn {w : World} {x dx st dst f c' cell sl pb : Addr} {k1 k2 k3 k4 j1 j2 j3 j4 j5 tw jl jw : Tok} {jln : Int} {jws : PySem.Str} {jpb : Value}
    {name qual : PySem.Str} {P : Arguments} {Bd : PySem.Expr} {Sc : Scope} {cl : List (PySem.Str × Addr)} {pm ctv : Value} {oc ocell : Obj} {ln : Int} {e : Nat} {W : Nat → List Nat} {way : Nat → Int} {rest : List Value} {a b c : Addr × Obj} {ol : List (Addr × Obj)}
    {i : Nat} {ys : List Value} {nw : List (Addr × Obj)} {G : List Value → List (Addr × Obj) → Prop} (h : WInv w x dx st dst f c' cell sl pb k1 k2 k3 k4 j1 j2 j3 j4 j5 tw jl jw jln jws jpb name qual P Bd Sc cl pm ctv oc ocell ln e W way rest a b c ol i ys nw) (hi : i < 5)
    (k : ∀ v us tl n, Sg v (wrt (W i) (way i)) → Rem W way rest (i + 1) us → (v ++ us).length ≤ 900 → ys.length = i → (∀ k, k < i → ∃ t, ys[k]? = some (Value.str (tx (W k)) t)) → G ys (a :: b :: c :: (pb, listOf #[] e) :: (x, instObj 66 dx) :: (dx, lexDict w k1 k2 k3 k4 (.int (lnS W way ln i) tl) (.ref st) (.str (PySem.Str.ofString "\n\t\r ") tw) (.ref pb)) :: (st, instObj 66 dst) :: (dst, strDict w j1 j2 j3 j4 j5 (.int jln jl) .none (.str jws jw) jpb (.ref f)) :: (f, kla_obj name qual P Bd Sc cl pm c' ctv) :: (c', oc) :: (cell, ocell) :: (sl, listOf (v ++ us).toArray n) :: ol)) : G ys nw := by
  cases h with
  | mk us tl n hr hu hl hy =>
    cases hr with
    | nil => exact absurd hi (by decide)
    | cons s r => exact k _ _ tl n s r hu hl hy

end

section
theorem words_asked : True := by
  k_with_none
  k_with "k_room" => (first | decide | ((try simp only [depth_under_make, depth_under_kw, depth_in1, depth_deeper, depth_caller]); lia))
  k_with "eval ListComp" => ((k_here; k_dflt (refine LCg.ListComp_U (F₀ := by k_asm) (by with_unfolding_all rfl) (by decide) (by rfl) (by decide) (by rfl) ?_); k_dflt lcg_toSrc))
  k_with "exec Assign cons ListComp" => ((k_here; k_dflt (refine LCg.Assign_ListComp_U (F₀ := by k_asm) (by rfl) (by with_unfolding_all rfl) (by with_unfolding_all rfl) (by decide) (by rfl) (by decide) (by rfl) (by rfl) (by rfl) ?_); k_dflt lcg_toSrc))
  k_with "CompSrc" => ((k_here; k_dflt (first | (refine LCg.CompSrc.ledger (by rfl) (by k_asm) (by k_asm) (by k_mem) (by first | exact Nat.le_of_ble_eq_true rfl | size_fits) ?_; intro g'; lcg_lit) | (refine LCg.CompSrc.range (by rfl) (by k_asm) (by k_asm) (by assumption) (by first | decide | rfl) (by first | rfl | decide) (by first | exact Nat.le_of_ble_eq_true rfl | size_fits) ?_; intro g'; lcg_lit))))
  k_with "binaryOp Pow int int" => ((k_here; with_reducible refine pow_pw ?kb1 ?kb2 ?_; (case kb1 => assumption); (case kb2 => assumption)))
  k_with "binaryOp Mult int int" => ((k_here; with_reducible refine mul_pw ?kb1 ?kb2 ?_; (case kb1 => assumption); (case kb2 => assumption)))
  k_with "binaryOp BitXor int int" => ((k_here; with_reducible refine xor_xr ?_))
  k_with "CompRest" => ((with_unfolding_all first | (refine LCg.CompRest.succ ?_; intro v' I' oI' C' oC' D' m' h' tk' E' hv' hC' hx' F' N' off' ne'; (first | lcg_open hv' | (obtain ⟨t9', hv9'⟩ := hv'; subst hv9')); (obtain ⟨neIC', neID', neCD'⟩ := ne')) | refine LCg.CompRest.zero ?_))
  k_with "lcg_off" => (with_reducible assumption)
  k_with "CompEnd" => (lcg_end)
  k_with "eval Name" => ((k_here; k_dflt (first
  | (refine' nameX_L ?F ?v ?_ ?a ?b; (case F => k_asm); (case a => rfl); (case b => rfl); (case v => rfl); k_whole)
  | (refine' nameX_C ?N ?c ?m ?d ?_ ?a ?b; (case a => rfl); (case b => rfl); (case N => k_asm); (case c => rfl); (case m => k_mem); (case d => k_asm); k_whole)
  | (refine' nameX_K ?F ?X ?T ?e ?_ ?a ?b; (case F => k_asm); (case X => k_asm); (case T => k_asm); (case a => rfl); (case b => rfl); (case e => k_is); k_whole))))
  k_with "eval Name" => ((k_here; (with_reducible show wpAny _ _ (eval (PySem.Expr.Name _ _) (compEnvC _ _ _ _)) _ _ _); k_dflt (first
  | (refine LCgL.ld_own (by k_asm) (by k_mem) (by assumption) (by assumption) ?_)
  | (refine' lcf_cell ?N ?c ?m ?d ?_ ?a ?b; (case a => rfl); (case b => rfl); (case N => k_asm); (case c => rfl); (case m => k_mem); (case d => k_asm); k_whole)
  | (refine' lcf_free ?N ?c ?m ?d ?_ ?a ?b; (case a => rfl); (case b => rfl); (case N => k_asm); (case c => rfl); (case m => k_mem); (case d => k_asm); k_whole)
  | (refine LCgL.ld_global (by k_asm) (by k_asm) (by k_asm) (by k_is) ?_))))
  k_with "FinE" => (((unfold LCg.FinE); intro D' h' tk' F' N' oq9'; (try simp only [List.nil_append, List.cons_append] at N'); (try dsimp only)))
  k_with "FinA" => (((unfold LCg.FinA); intro D' h' tk' F' N' oq9'; (try simp only [List.nil_append, List.cons_append] at N'); (try dsimp only)))
  k_with "k_ne" => (((try dsimp only); first
  | (with_reducible assumption)
  | (with_reducible exact Ne.symm (by assumption))
  | (refine' off1_ne ?nh ?nm; (case nh => with_reducible assumption); (case nm => k_mem))
  | (refine' off1_ne' ?nh ?nm; (case nh => with_reducible assumption); (case nm => k_mem))
  | (refine' off3_I ?nh ?nm; (case nh => with_reducible assumption); (case nm => k_mem))
  | (refine' off3_C ?nh ?nm; (case nh => with_reducible assumption); (case nm => k_mem))
  | (refine' off3_D ?nh ?nm; (case nh => with_reducible assumption); (case nm => k_mem))
  | (refine' off3_I' ?nh ?nm; (case nh => with_reducible assumption); (case nm => k_mem))
  | (refine' off3_C' ?nh ?nm; (case nh => with_reducible assumption); (case nm => k_mem))
  | (refine' off3_D' ?nh ?nm; (case nh => with_reducible assumption); (case nm => k_mem))
  | (refine' two_ne ?nh ?nm; (case nh => with_reducible assumption); (case nm => tb_start))
  | (refine' two_ne' ?nh ?nm; (case nh => with_reducible assumption); (case nm => tb_start))
  | (refine neN ?_; lia)))
  k_with "tb_start" => (first | (refine' Two.head ?th; (case th => k_mem)) | (refine' Two.tail ?tw; (case tw => tb_start)))
  k_with "call builtin:list.append" => ((k_here; (with_reducible show wpAny _ _ (PySem.call (Value.builtin _) [Value.ref _, _]) _ _ _); k_dflt (refine append_lit (by k_asm) (by k_asm) (by kl_lit) (by k_upd) (by kl_room) ?_); kl_rest))
  k_with "subscriptTail" => ((k_here; (with_reducible show wpAny _ _ (subscriptTail _ _ (Value.ref _) (Value.int _ _)) _ _ _); k_dflt (refine item_N (by k_asm) (by k_mem) (by decide) (by decide) rfl ?_ (by with_unfolding_all rfl))))
  k_with "subscriptTail Name Name ref int" => ((walk_at "subscriptTail"))
  k_with "subscriptTail Name Constant ref int" => ((walk_at "subscriptTail"))
  k_with "getItem ref int" => ((k_here; k_dflt (refine getItem_N (by k_asm) (by k_mem) (by decide) (by decide) rfl ?_)))
  k_with "getMethod ref" => ((k_here; (with_reducible show wpAny _ _ (getMethod (Value.ref _) (PySem.Str.ofString "read") _) _ _ _); k_dflt (refine kmu_own (by k_asm) (by k_asm) (by k_inst) (by k_is) (by k_is) ?_)))
  k_with "And" => (((with_reducible show FnAt _ _ ∧ _); refine ⟨FnAt.of (by k_asm) (by k_mem), ?_⟩; (try dsimp only [List.nil_append, List.cons_append])))
  k_with "k_mem" => (first | exact List.Mem.head _ | exact mem1 | exact mem2 | exact mem3 | exact mem4 | exact mem5 | exact mem6 | exact mem7 | (refine' mem8 ?_; k_mem))
  k_with "lcg_sub" => (first | exact sub_nil | (refine sub_cons (by k_mem) ?_; lcg_sub))
  k_with "kpt_turns" => (first | exact Take.head | exact tk1 | exact tk2 | exact tk3 | (refine' tk4 ?tk; (case tk => kpt_turns)))
  k_with "tb_rel" => (first | exact Pick.nil | (refine' Pick.cons ?pt ?pk; (case pt => kpt_turns); (case pk => tb_rel)))
  k_with "ktm_same2" => (first | exact True.intro | (refine off1_cons (by k_ne) ?_; ktm_same2))
  k_with "ktr_rel" => (first | exact True.intro | (refine And.intro (by ktm_same2) ?_; ktr_rel))
  k_with "ktr_room" => (first | decide | ((try simp only [depth_under_make, depth_under_kw, depth_in1, depth_deeper, depth_caller] at *); lia))
  k_with "truthy ref" => ((k_here; (with_reducible show wpAny _ _ (truthy (Value.ref _)) _ _ _); k_dflt (first
  | (refine truthy_cons (by k_asm) (by k_mem) (by with_reducible assumption) ?_)
  | (refine truthy_nil (by k_asm) (by k_mem) ?_))))
  k_with "call builtin:list.pop" => ((k_here; (with_reducible show wpAny _ _ (PySem.call (Value.builtin _) [Value.ref _, Value.int 0 _]) _ _ _); k_dflt (refine pop0_cons (by k_asm) (by k_asm) (by k_upd) (by with_reducible assumption) ?_); kl_rest))
  k_with "execs cons" => ((k_here; k_fold))
  exact True.intro

theorem words1_asked : True := by
  k_with "exec For Name Call cons nil" => ((k_here; with_unfolding_all refine For_cit ?_))
  k_with "pI" => ((k_here; k_dflt (refine rng_iter (h := ?_)); intros))
  k_with "pyNext ref" => ((k_here; k_dflt (first | refine rng_some (h := ?_) | refine rng_none (h := ?_)); intros))
  k_with "call builtin:list.append" => ((k_here; (with_reducible show wpAny _ _ (PySem.call (Value.builtin _) [Value.ref _, _]) _ _ _); k_dflt (refine app_any (h := ?_)); kl_rest))
  k_with "subscriptTail Name Name ref int" => ((k_here; k_dflt (first | refine get_int (h := ?_) | refine get_str (h := ?_) | refine get_num (h := ?_)); intros))
  k_with "subscriptTail Name Constant ref int" => ((k_here; k_dflt (refine get_str (k := 4) (h := ?_)); intros))
  k_with "call ref" => ((k_here; k_dflt (first | refine toka_at ?_ | refine tokl_at ?_ | refine push_at ?_ | refine gi_at ?_ | refine use1 (rsh_spec _ _ _ _) ?_ | refine use1 (band_spec _ _ _ _) ?_ | refine use1 (add_spec _ _ _ _ _) ?_ | refine use1 (bxor_spec _ _ _ (by with_reducible assumption) (by with_reducible assumption) _ _) ?_ | refine beq_at ?_ ?_ | refine use1 (levd_spec _ _ _ _ _ _ _ (by with_reducible assumption) (by lia) (by with_reducible assumption) (by with_reducible assumption)) ?_); (all_goals intros)))
  k_with "CompRest" => ((k_here; (with_reducible show LCg.CompRest _ _ _ _ _ _ _ _ _ _ _ _ _ _ _ 5 0 [] _); (refine Stop.go ?_)))
  k_with "execs cons" => ((k_here; first | k_fold | dsimp only))
  exact True.intro

/-- what is so behind the asking -/
inductive AskPost (w : World) (x dx st dst f c' cell sl pb x2 dx2 pb2 lm : Addr) (k1 k2 k3 k4 j1 j2 j3 j4 j5 tw jl jw : Tok) (jln : Int) (jws : PySem.Str) (jpb : Value)
    (name qual : PySem.Str) (P : Arguments) (Bd : PySem.Expr) (Sc : Scope) (cl : List (PySem.Str × Addr)) (pm ctv : Value) (oc ocell : Obj) (ln : Int) (e : Nat)
    (q1 q2 q3 q4 tl2 tw2 : Tok) (ln2 : Int) (ins2 : Value) (ws2 : PySem.Str) (nm : Nat) (W : Nat → List Nat) (way : Nat → Int) (rest : List Value) (dist : Nat → Nat) (hid : Nat) (ms : List Value) : Value → List (Addr × Obj) → Prop
  | mk (tup ll lt lw nw nt nn2 n' tl' wt0 wt1 wt2 wt3 wt4 dt0 dt1 dt2 dt3 th tn) : Apart [tup, ll, lt, lw, x, dx, st, dst, f, c', cell, sl, pb, x2, dx2, pb2, lm] → AskPost w x dx st dst f c' cell sl pb x2 dx2 pb2 lm k1 k2 k3 k4 j1 j2 j3 j4 j5 tw jl jw jln jws jpb name qual P Bd Sc cl pm ctv oc ocell ln e q1 q2 q3 q4 tl2 tw2 ln2 ins2 ws2 nm W way rest dist hid ms (.ref tup) ([(tup, { cls := .type "tuple", data := .seq #[.ref lw, .ref lt, .ref ll] tn }), (ll, LCg.lst [.int ((hid : Nat) : Int) th]),
        (lt, listOf #[.int ((dist 0 : Nat) : Int) dt0, .int ((dist 1 : Nat) : Int) dt1, .int ((dist 2 : Nat) : Int) dt2, .int ((dist 3 : Nat) : Int) dt3] nt),
        (lw, listOf #[.str (tx (W 0)) wt0, .str (tx (W 1)) wt1, .str (tx (W 2)) wt2, .str (tx (W 3)) wt3, .str (tx (W 4)) wt4] nw),
        (lm, listOf ms.toArray nm), (x2, instObj 66 dx2), (dx2, lexDict w q1 q2 q3 q4 (.int ln2 tl2) ins2 (.str ws2 tw2) (.ref pb2)), (pb2, listOf #[] nn2), (pb, listOf #[] e)] ++
      lexL w x dx st dst f c' cell sl pb k1 k2 k3 k4 j1 j2 j3 j4 j5 tw jl jw tl' jln jws jpb name qual P Bd Sc cl pm ctv oc ocell
        (ln + (((wrt (W 0) (way 0)).count 10 : Nat) : Int) + (((wrt (W 1) (way 1)).count 10 : Nat) : Int) + (((wrt (W 2) (way 2)).count 10 : Nat) : Int) + (((wrt (W 3) (way 3)).count 10 : Nat) : Int) + (((wrt (W 4) (way 4)).count 10 : Nat) : Int)) rest n')
set_option maxHeartbeats 8000000 in
theorem asked_spec (w : World) (x dx st dst f c' cell sl pb x2 dx2 pb2 lm : Addr) (k1 k2 k3 k4 j1 j2 j3 j4 j5 tw jl jw tl : Tok) (jln : Int) (jws : PySem.Str) (jpb : Value)
    (name qual : PySem.Str) (P : Arguments) (Bd : PySem.Expr) (Sc : Scope) (cl : List (PySem.Str × Addr)) (pm ctv : Value) (oc ocell : Obj) (ln : Int) (n e : Nat)
    (q1 q2 q3 q4 tl2 tw2 : Tok) (ln2 : Int) (ins2 : Value) (ws2 : PySem.Str) (e2 nm : Nat)
    (W : Nat → List Nat) (way : Nat → Int) (v0 v1 v2 v3 v4 rest : List Value) (μ dist : Nat → Nat) (hid : Nat) (ms : List Value)
    (hap : Apart [x, dx, st, dst, f, c', cell, sl, pb, x2, dx2, pb2, lm]) (HR : Lam w f c' cell sl name qual P Bd Sc cl pm ctv oc ocell)
    (hW : ∀ k, k < 5 → (W k).length = 6) (S0 : Sg v0 (wrt (W 0) (way 0))) (S1 : Sg v1 (wrt (W 1) (way 1))) (S2 : Sg v2 (wrt (W 2) (way 2))) (S3 : Sg v3 (wrt (W 3) (way 3))) (S4 : Sg v4 (wrt (W 4) (way 4)))
    (hz : (v0 ++ (v1 ++ (v2 ++ (v3 ++ (v4 ++ rest))))).length ≤ 900)
    (hN : ∀ k, k < 4 → Near (W k) (W 4)) (hp : ∀ k, k < 4 → psum (W k) (W 4) (W k).length = (dist k : Int)) (hd5 : ∀ k, k < 4 → dist k ≤ 5)
    (hμ : ∀ k, k < 4 → μ k < 32) (hms : ∀ k, k < 4 → ∃ t, ms[k]? = some (.int ((μ k : Nat) : Int) t)) (hleft : left μ dist 4 = [hid]) :
    Spec w 178 8 [.ref x, .ref x2, .ref lm] (((pb, listOf #[] e) :: lexL w x dx st dst f c' cell sl pb k1 k2 k3 k4 j1 j2 j3 j4 j5 tw jl jw tl jln jws jpb name qual P Bd Sc cl pm ctv oc ocell ln (v0 ++ (v1 ++ (v2 ++ (v3 ++ (v4 ++ rest))))) n) ++
        [(x2, instObj 66 dx2), (dx2, lexDict w q1 q2 q3 q4 (.int ln2 tl2) ins2 (.str ws2 tw2) (.ref pb2)), (pb2, listOf #[] e2), (lm, listOf ms.toArray nm)])
      (AskPost w x dx st dst f c' cell sl pb x2 dx2 pb2 lm k1 k2 k3 k4 j1 j2 j3 j4 j5 tw jl jw jln jws jpb name qual P Bd Sc cl pm ctv oc ocell ln e q1 q2 q3 q4 tl2 tw2 ln2 ins2 ws2 nm W way rest dist hid ms) := by
  unfold Spec
  w_top off
  k_fill
  intro mean mg mb p loose dp un gd fr base g s R B X T hsz H hdp hu hret
  unfold lexL at H
  simp only [List.cons_append, List.nil_append] at H
  k_dflt (refine enterC (binds := [("lexer", .ref x), ("line", .ref x2), ("marks", .ref lm)]) (by assumption) (by assumption) (by assumption) (by assumption) (by assumption) (by k_is) (by k_is) (by k_room) (BindsTo.of_eq rfl) rfl (by decide +kernel) ?_ rfl rfl rfl)
  intro L' h' tk' cells' F' N' Y' l1
  (have offK' := off1_of (fun r hr => Nat.ne_of_lt (l1 r hr)))
  (try (replace l1 := allLt_of l1; simp only [AllLt, and_true] at l1))
  k_cells Y'
  (try simp only [List.cons_append, List.nil_append] at N')
  (try dsimp only)
  (try k_fold)
  have hap1 : ApB [x, dx, st, dst, f, c', cell, sl, pb] := ⟨apart_left (l := [x, dx, st, dst, f, c', cell, sl, pb]) (r := [x2, dx2, pb2, lm]) hap⟩
  have hap2 : ApB [x2, dx2, pb2] := ⟨apart_left (l := [x2, dx2, pb2]) (r := [lm]) (apart_right (l := [x, dx, st, dst, f, c', cell, sl, pb]) (r := [x2, dx2, pb2, lm]) hap)⟩
  have hw0 := hW 0 (by decide)
  have hw1 := hW 1 (by decide)
  have hw2 := hW 2 (by decide)
  have hw3 := hW 3 (by decide)
  have hw4 := hW 4 (by decide)
  simp only [List.length_append] at hz
  repeat' (first | (k_unfold; (try dsimp only)) | (k_end; wrow_close) | walk1 | (dsimp only; walk1) | (dsimp only; k_unfold; (try dsimp only)) | (leave1; walk_say "STEP leave1"; (try dsimp only)) | fail "no step")
  rename Fr _ _ _ _ => oldF
  rename News _ _ _ _ => oldN
  refine' Turns.mk (InvW g s _ _ _ lm _) 31 ⟨?h0, ?step⟩
  case h0 =>
    refine' InvW.mk 1 [.int 0 _] _ _ _ _ (by decide) (by decide) ⟨rfl, ?r⟩ (news_pick2 oldN ?t1 ?t2) (Fr.front oldF _ ⟨rfl, rfl, trivial⟩)
    case t1 => kpt_turns
    case t2 => kpt_turns
    case r =>
      intro j hj
      obtain rfl : j = 0 := by lia
      exact ⟨_, rfl⟩
  case step =>
    clear oldF oldN
    intro k s' hI; induction hI; rename_i i vs nn h' tk m hi1 hi2 hR N2 F2; (try k_fold)
    have hRl := hR.1
    rcases Nat.lt_or_ge i 32 with hlt | hge
    · obtain ⟨r, hr⟩ : ∃ r, 32 - i = r + 1 := ⟨32 - i - 1, by lia⟩
      rw [hr] at N2
      repeat' (first | (k_unfold; (try dsimp only)) | (k_end; wrow_close) | walk1 | (dsimp only; walk1) | (dsimp only; k_unfold; (try dsimp only)) | (leave1; walk_say "STEP leave1"; (try dsimp only)) | fail "no step")
      (try dsimp only)
      have hr2 : 32 - (i + 1) = r := by lia
      refine' Again.mk (32 - (i + 1)) ?lt (InvW.mk (i + 1) _ _ _ _ _ ?i1 ?i2 (hR.snoc ?pp) (News.sub (by assumption) ?nw) (Fr.front (by assumption) _ ⟨rfl, rfl, trivial⟩))
      case lt => lia
      case i1 => lia
      case i2 => lia
      case pp => rw [pop_half hlt]
      case nw => rw [hr2]; lcg_sub
    · obtain rfl : i = 32 := by lia
      rw [Nat.sub_self] at N2
      repeat' (first | (k_unfold; (try dsimp only)) | (k_end; wrow_close) | walk1 | (dsimp only; walk1) | (dsimp only; k_unfold; (try dsimp only)) | (leave1; walk_say "STEP leave1"; (try dsimp only)) | fail "no step")
      unfold Stop
      (try dsimp only)
      refine rest_inv (WInv w x dx st dst f c' cell sl pb k1 k2 k3 k4 j1 j2 j3 j4 j5 tw jl jw jln jws jpb name qual P Bd Sc cl pm ctv oc ocell ln e W way rest _ _ _ _) (WInv.mk 0 [] _ _ _ (.cons S0 (.cons S1 (.cons S2 (.cons S3 (.cons S4 .nil))))) (by simp only [List.length_append]; lia) rfl (fun k hk => absurd hk (Nat.not_lt_zero k))) ?turn ?fin
      case turn =>
        intro i nw v I' oI' C' oC' D' m2' ys' h' tk' E' Q' hi' hr'
        induction hr'
        rename_i i ys us tl' n' hRem hus hlen hys
        cases hRem
        · exact absurd hi' (by decide)
        rename_i v' us' hSg hRem'
        rw [List.length_append] at hus
        intro hv' hC' hx' F' N' off' ne' hc'
        clear hv'
        have hwi := hW i hi'
        repeat' (first | (k_unfold; (try dsimp only)) | (k_end; wrow_close) | walk1 | (dsimp only; walk1) | (dsimp only; k_unfold; (try dsimp only)) | (leave1; walk_say "STEP leave1"; (try dsimp only)) | fail "no step")
        rename News _ _ _ _ => N9'
        rw [show lnS W way ln i + _ = lnS W way ln (i + 1) from rfl] at N9'
        exact hc' _ _ _ _ (WInv.mk (i + 1) _ us' _ _ hRem' (by lia) (by rw [List.length_append, hlen]; rfl) (strs_snoc hlen hys)) trivial (by k_asm) (News.sub N9' (by lcg_sub)) off'
      case fin =>
      intro ys' nw' hr'
      refine hr'.five ?_
      clear hr'
      intro ys' tl' n' hWL0
      repeat' (first | (k_unfold; (try dsimp only)) | (k_end; wrow_close) | walk1 | (dsimp only; walk1) | (dsimp only; k_unfold; (try dsimp only)) | (leave1; walk_say "STEP leave1"; (try dsimp only)) | fail "no step")
      rename Fr _ _ _ _ => oldF
      rename News _ _ _ _ => oldN
      refine' Turns.mk (InvP g s _ _ pb2 _ lm _ _) 32 ⟨?h0, ?step⟩
      case h0 =>
        refine' InvP.mk 0 [] _ _ _ _ (by decide) .nil (news_pick2 oldN ?t1 ?t2) (Fr.front oldF _ ⟨rfl, rfl, rfl, trivial⟩)
        case t1 => kpt_turns
        case t2 => kpt_turns
      case step =>
        clear oldF oldN
        intro k s' hI; induction hI; rename_i i vs2 nn h' tk m hi2 hNA N2 F2; (try k_fold)
        have hNl := hNA.len
        rw [List.length_range] at hNl
        rcases Nat.lt_or_ge i 32 with hlt | hge
        · obtain ⟨r, hr⟩ : ∃ r, 32 - i = r + 1 := ⟨32 - i - 1, by lia⟩
          rw [hr] at N2
          repeat' (first | (k_unfold; (try dsimp only)) | (k_end; wrow_close) | walk1 | (dsimp only; walk1) | (dsimp only; k_unfold; (try dsimp only)) | (leave1; walk_say "STEP leave1"; (try dsimp only)) | fail "no step")
          (try dsimp only)
          have hr2 : 32 - (i + 1) = r := by lia
          have hNA2 : ∀ t, NA (vs2 ++ [.int ((i : Nat) : Int) t]) (List.range (i + 1)) := fun t => by rw [List.range_succ]; exact hNA.snoc
          refine' Again.mk (32 - (i + 1)) ?lt (InvP.mk (i + 1) _ _ _ _ _ ?i2 (hNA2 _) (News.sub (by assumption) ?nw) (Fr.front (by assumption) _ ⟨rfl, rfl, rfl, trivial⟩))
          case lt => lia
          case i2 => lia
          case nw => rw [hr2]; lcg_sub
        · obtain rfl : i = 32 := by lia
          rw [Nat.sub_self] at N2
          repeat' (first | (k_unfold; (try dsimp only)) | (k_end; wrow_close) | walk1 | (dsimp only; walk1) | (dsimp only; k_unfold; (try dsimp only)) | (leave1; walk_say "STEP leave1"; (try dsimp only)) | fail "no step")
          rename Fr _ _ _ _ => oldF
          rename News _ _ _ _ => oldN
          refine' Turns.mk (InvR g s μ dist W _ _ pb2 _ _ lm _ _) 4 ⟨?h0, ?step⟩
          case h0 =>
            refine' InvR.mk 0 _ _ [] _ _ _ _ _ _ _ (by decide) hNA ⟨rfl, fun j hj => absurd hj (Nat.not_lt_zero j)⟩ hWL0 (news_pick4 oldN ?t1 ?t2 ?t3 ?t4) (Fr.front oldF _ ⟨rfl, rfl, rfl, rfl, rfl, trivial⟩)
            case t1 => kpt_turns
            case t2 => kpt_turns
            case t3 => kpt_turns
            case t4 => kpt_turns
          case step =>
            clear oldF oldN hNA hNl
            intro k s' hI; induction hI; rename_i i vs2 nn ts nt ws nw h' tk m tw' hi2 hNA hRt hWL N2 F2; (try k_fold)
            rcases Nat.lt_or_ge i 4 with hlt | hge
            · obtain ⟨r, hr⟩ : ∃ r, 4 - i = r + 1 := ⟨4 - i - 1, by lia⟩
              rw [hr] at N2
              have hNi := hN i hlt
              have hpi := hp i hlt
              have hdi := hd5 i hlt
              have hmi := hms i hlt
              have hμi := hμ i hlt
              have hwi := hW i (by lia)
              have hll := left_len μ dist i
              have hts := hRt.1
              have hwk := hWL.2 i (by lia)
              have hwk4 := hWL.2 4 (by decide)
              repeat' (first | (k_unfold; (try dsimp only)) | (k_end; wrow_close) | walk1 | (dsimp only; walk1) | (dsimp only; k_unfold; (try dsimp only)) | (leave1; walk_say "STEP leave1"; (try dsimp only)) | fail "no step")
              have hRt2 : ∀ t, RowL (ts ++ [.int ((dist i : Nat) : Int) t]) (i + 1) (fun j => ((dist j : Nat) : Int)) := fun t => hRt.snoc rfl
              have hNl := hNA.len
              rename Fr _ _ _ _ => oldF
              rename News _ _ _ _ => oldN
              refine' Turns.mk (InvF g s μ dist i _ _ pb2 _ _ lm _ _ _) (left μ dist i).length ⟨?h0, ?step⟩
              case h0 =>
                refine' InvF.mk (left μ dist i) [] _ vs2 _ _ _ _ _ _ _ ?na (left_small μ dist i) rfl ?ln (hRt2 _) (news_pick3 oldN ?t1 ?t2 ?t3) (Fr.front oldF _ ⟨rfl, rfl, rfl, rfl, rfl, rfl, trivial⟩)
                case t1 => kpt_turns
                case t2 => kpt_turns
                case t3 => kpt_turns
                case na => rw [List.append_nil]; exact hNA
                case ln => rw [List.append_nil]; exact hll
              case step =>
                clear oldF oldN hNA hNl hRt hRt2 hts
                intro k s' hI; induction hI; rename_i ps ks y vs3 nn ts2 nt h' tk m tq hNA hsm hfil hln hRt N2 F2; (try k_fold)
                have hNl := hNA.len
                cases ps with
                | cons p ps =>
                  cases hNA with
                  | cons _ tp hNA =>
                    rename_i vs4
                    have hp32 : p < 32 := hsm p (.head _)
                    have hx32 := xor_small hp32 hμi
                    have hi5 : i < i + 1 := Nat.lt_succ_self i
                    simp only [List.length_cons, List.cons_append] at hNl hln N2
                    repeat' (first | (k_unfold; (try dsimp only)) | (k_end; wrow_close) | walk1 | (dsimp only; walk1) | (dsimp only; k_unfold; (try dsimp only)) | (leave1; walk_say "STEP leave1"; (try dsimp only)) | fail "no step")
                    · have hpass : passes μ dist i p = true := by
                        have h2 : ((pop (p ^^^ μ i) : Nat) : Int) = ((dist i : Nat) : Int) := by assumption
                        unfold passes
                        exact decide_eq_true (by lia)
                      rw [List.filter_cons_of_pos hpass] at hfil
                      (try dsimp only)
                      refine' Again.mk ps.length (Nat.lt_succ_self _) (InvF.mk ps (ks ++ [p]) _ _ _ _ _ _ _ _ _ ?na ?sm ?fil ?ln hRt (News.sub (by assumption) ?nw) (Fr.front (by assumption) _ ⟨?kp, rfl, rfl, rfl, rfl, rfl, trivial⟩))
                      case nw => lcg_sub
                      case na => rw [← List.append_assoc]; exact hNA.snoc
                      case sm => exact fun n hn => hsm n (.tail _ hn)
                      case fil => rw [List.append_assoc]; exact hfil
                      case ln => simp only [List.length_append, List.length_cons, List.length_nil] at hln ⊢; lia
                      case kp => exact congrArg (fun z => some (Value.int z _)) (show ((ks.length : Nat) : Int) + 1 = (((ks ++ [p]).length : Nat) : Int) by rw [List.length_append]; rfl)
                    · have hpass : ¬ (passes μ dist i p = true) := by
                        have h2 : ((pop (p ^^^ μ i) : Nat) : Int) ≠ ((dist i : Nat) : Int) := by assumption
                        unfold passes
                        rw [decide_eq_true_iff]
                        lia
                      rw [List.filter_cons_of_neg hpass] at hfil
                      (try dsimp only)
                      refine' Again.mk ps.length (Nat.lt_succ_self _) (InvF.mk ps ks _ _ _ _ _ _ _ _ _ ?na ?sm hfil ?ln hRt (News.sub (by assumption) ?nw) (Fr.front (by assumption) _ ⟨rfl, rfl, rfl, rfl, rfl, rfl, trivial⟩))
                      case nw => lcg_sub
                      case na => exact hNA
                      case sm => exact fun n hn => hsm n (.tail _ hn)
                      case ln => lia
                | nil =>
                  simp only [List.length_nil, List.nil_append] at hNl hln N2 hNA
                  rw [List.filter_nil, List.append_nil] at hfil
                  repeat' (first | (k_unfold; (try dsimp only)) | (k_end; wrow_close) | walk1 | (dsimp only; walk1) | (dsimp only; k_unfold; (try dsimp only)) | (leave1; walk_say "STEP leave1"; (try dsimp only)) | fail "no step")
                  (try dsimp only)
                  have hr2 : 4 - (i + 1) = r := by lia
                  refine' Again.mk (4 - (i + 1)) ?lt (InvR.mk (i + 1) _ _ _ _ _ _ _ _ _ _ ?i2 ?na hRt hWL (News.sub (by assumption) ?nw) (Fr.front (by assumption) _ ⟨?wt, rfl, rfl, rfl, rfl, trivial⟩))
                  case lt => lia
                  case i2 => lia
                  case nw => rw [hr2]; lcg_sub
                  case na => rw [← hfil]; exact hNA
                  case wt => exact congrArg (fun z : List Nat => some (Value.int ((z.length : Nat) : Int) _)) hfil
            · obtain rfl : i = 4 := by lia
              rw [Nat.sub_self] at N2
              rw [hleft] at hNA
              have hwt : (((left μ dist 4).length : Nat) : Int) = 1 := by rw [hleft]; rfl
              rw [hwt] at F2
              obtain ⟨wt0, wt1, wt2, wt3, wt4, rfl⟩ := words_lit hWL
              obtain ⟨dt0, dt1, dt2, dt3, rfl⟩ := row4 hRt
              cases hNA with
              | cons _ th hNA =>
                cases hNA
                repeat' (first | (k_unfold; (try dsimp only)) | (k_end; wrow_close) | walk1 | (dsimp only; walk1) | (dsimp only; k_unfold; (try dsimp only)) | (leave1; walk_say "STEP leave1"; (try dsimp only)) | fail "no step")
                (try dsimp only)
                refine' spec_end hret (by assumption) (by assumption) _ (AskPost.mk _ _ _ _ _ _ _ _ _ _ _ _ _ _ _ _ _ _ _ _ ?ap) ?sub
                case sub => unfold lexL; (try simp only [List.cons_append, List.nil_append]); lcg_sub
                case ap =>
                  refine' ⟨?a1, ?a2, ?a3, ?a4, hap⟩
                  case a1 => (repeat (refine List.forall_mem_cons.mpr ⟨by k_ne, ?_⟩)); exact List.forall_mem_nil _
                  case a2 => (repeat (refine List.forall_mem_cons.mpr ⟨by k_ne, ?_⟩)); exact List.forall_mem_nil _
                  case a3 => (repeat (refine List.forall_mem_cons.mpr ⟨by k_ne, ?_⟩)); exact List.forall_mem_nil _
                  case a4 => (repeat (refine List.forall_mem_cons.mpr ⟨by k_ne, ?_⟩)); exact List.forall_mem_nil _

end

section
theorem lower_tx {c : Nat} (h : c < 128) : Txt.lower (tx [c]) = tx [if 65 ≤ c ∧ c ≤ 90 then c + 32 else c] := by
  have : ∀ c : Fin 128, Txt.lower (tx [c.val]) = tx [if 65 ≤ c.val ∧ c.val ≤ 90 then c.val + 32 else c.val] := by decide +kernel
  exact this ⟨c, h⟩
noncomputable def lowN (c : Nat) : Nat := if 65 ≤ c ∧ c ≤ 90 then c + 32 else c
theorem cost_tx {a b : Nat} (ha : a < 128) (hb : b < 128) : cost (tx [a]) (tx [b]) = if a = b then 0 else if lowN a = lowN b then 1 else 2 := by
  unfold cost
  rw [lower_tx ha, lower_tx hb]
  simp only [tx_inj, List.cons.injEq, and_true]
  rfl
theorem xor_bits {x y : Nat} (hx : x < 32) (hy : y < 32) : (x ^^^ y) % 2 = (x % 2 + y % 2) % 2 ∧ (x ^^^ y) / 2 % 2 = (x / 2 % 2 + y / 2 % 2) % 2 ∧ (x ^^^ y) / 4 % 2 = (x / 4 % 2 + y / 4 % 2) % 2 ∧ (x ^^^ y) / 8 % 2 = (x / 8 % 2 + y / 8 % 2) % 2 ∧ (x ^^^ y) / 16 % 2 = (x / 16 % 2 + y / 16 % 2) % 2 := by
  have : ∀ x y : Fin 32, (x.val ^^^ y.val) % 2 = (x.val % 2 + y.val % 2) % 2 ∧ (x.val ^^^ y.val) / 2 % 2 = (x.val / 2 % 2 + y.val / 2 % 2) % 2 ∧ (x.val ^^^ y.val) / 4 % 2 = (x.val / 4 % 2 + y.val / 4 % 2) % 2 ∧ (x.val ^^^ y.val) / 8 % 2 = (x.val / 8 % 2 + y.val / 8 % 2) % 2 ∧ (x.val ^^^ y.val) / 16 % 2 = (x.val / 16 % 2 + y.val / 16 % 2) % 2 := by decide +kernel
  exact this ⟨x, hx⟩ ⟨y, hy⟩
/-- a letter: its place in the alphabet, its case -/
noncomputable def ltr (b s k : Nat) : Nat := 97 - 32 * b + s + k
theorem lettr_is {x : Nat} {s : Nat} {look : Int} {q : Nat} {k : Nat} (hs : look.fmod 22 = (s : Int)) : (lettr (((x : Int).fdiv (q : Int)).fmod 2) + look.fmod 22 + (k : Int)).toNat = ltr (x / q % 2) s k := by
  have e : ((x : Int).fdiv (q : Int)).fmod 2 = ((x / q % 2 : Nat) : Int) := by
    rw [Int.fdiv_eq_ediv_of_nonneg _ (by lia), Int.fmod_eq_emod_of_nonneg _ (by decide)]
    rfl
  rw [e, hs]
  have : x / q % 2 = 0 ∨ x / q % 2 = 1 := by lia
  unfold ltr
  rcases this with h | h <;> rw [h]
  · show ((97 : Int) + s + k).toNat = _
    lia
  · show ((65 : Int) + s + k).toNat = _
    lia
theorem strange_is (i : Int) (h0 : 0 ≤ i) (h1 : i < 6) : strange i = 32 ∨ strange i = 34 ∨ strange i = 92 ∨ strange i = 10 ∨ strange i = 9 ∨ strange i = 35 := by
  have := lt6i h0 h1
  rcases this with rfl | rfl | rfl | rfl | rfl | rfl <;> decide
/-- a word's six signs -/
theorem spell_forms (x : Nat) (look : Int) : ∃ s st p : Nat, look.fmod 22 = (s : Int) ∧ ((look.fdiv 132).fmod 6) = (p : Int) ∧ strange ((look.fdiv 22).fmod 6) = st ∧ s < 22 ∧ p < 6 ∧ (st = 32 ∨ st = 34 ∨ st = 92 ∨ st = 10 ∨ st = 9 ∨ st = 35) ∧
    spell (x : Int) look = (let l := [ltr (x % 2) s 0, ltr (x / 2 % 2) s 1, ltr (x / 4 % 2) s 2, ltr (x / 8 % 2) s 3, ltr (x / 16 % 2) s 4]; l.take p ++ st :: l.drop p) := by
  have a0 := Int.fmod_nonneg_of_pos look (show (0:Int) < 22 by decide)
  have a1 := Int.fmod_lt_of_pos look (show (0:Int) < 22 by decide)
  have b0 := Int.fmod_nonneg_of_pos (look.fdiv 132) (show (0:Int) < 6 by decide)
  have b1 := Int.fmod_lt_of_pos (look.fdiv 132) (show (0:Int) < 6 by decide)
  have c0 := Int.fmod_nonneg_of_pos (look.fdiv 22) (show (0:Int) < 6 by decide)
  have c1 := Int.fmod_lt_of_pos (look.fdiv 22) (show (0:Int) < 6 by decide)
  have hs : look.fmod 22 = ((look.fmod 22).toNat : Int) := (Int.toNat_of_nonneg a0).symm
  refine ⟨(look.fmod 22).toNat, strange ((look.fdiv 22).fmod 6), ((look.fdiv 132).fmod 6).toNat, hs, (Int.toNat_of_nonneg b0).symm, rfl, by lia, by lia, strange_is _ c0 c1, ?_⟩
  have l0 := lettr_is (x := x) (q := 1) (k := 0) hs
  have l1 := lettr_is (x := x) (q := 2) (k := 1) hs
  have l2 := lettr_is (x := x) (q := 4) (k := 2) hs
  have l3 := lettr_is (x := x) (q := 8) (k := 3) hs
  have l4 := lettr_is (x := x) (q := 16) (k := 4) hs
  rw [Nat.div_one] at l0
  have e : letters (x : Int) look = [[ltr (x % 2) (look.fmod 22).toNat 0], [ltr (x / 2 % 2) (look.fmod 22).toNat 1], [ltr (x / 4 % 2) (look.fmod 22).toNat 2], [ltr (x / 8 % 2) (look.fmod 22).toNat 3], [ltr (x / 16 % 2) (look.fmod 22).toNat 4]] := by
    rw [letters_eq, ← l0, ← l1, ← l2, ← l3, ← l4]
    rfl
  unfold spell spellL
  rw [e]
  generalize ((look.fdiv 132).fmod 6).toNat = p
  match p with
  | 0 => rfl
  | 1 => rfl
  | 2 => rfl
  | 3 => rfl
  | 4 => rfl
  | n + 5 => simp
theorem low_ltr {b s k : Nat} (hb : b < 2) (hs : s < 22) (hk : k < 5) : lowN (ltr b s k) = 97 + s + k ∧ ltr b s k < 128 := by
  unfold ltr lowN
  have : b = 0 ∨ b = 1 := by lia
  rcases this with rfl | rfl
  · rw [if_neg (by lia)]; lia
  · rw [if_pos (by lia)]; lia
theorem low_st {st : Nat} (h : st = 32 ∨ st = 34 ∨ st = 92 ∨ st = 10 ∨ st = 9 ∨ st = 35) : lowN st = st ∧ st < 97 := by
  rcases h with rfl | rfl | rfl | rfl | rfl | rfl <;> decide
/-- the five bits -/
noncomputable def bt (x k : Nat) : Nat := match k with | 0 => x % 2 | 1 => x / 2 % 2 | 2 => x / 4 % 2 | 3 => x / 8 % 2 | _ => x / 16 % 2
theorem bt_lt (x k : Nat) : bt x k < 2 := by unfold bt; split <;> lia
theorem pop_bt (x : Nat) : pop x = bt x 0 + bt x 1 + bt x 2 + bt x 3 + bt x 4 := rfl
theorem bt_xor {x y : Nat} (hx : x < 32) (hy : y < 32) (k : Nat) : bt (x ^^^ y) k = (bt x k + bt y k) % 2 := by
  obtain ⟨h0, h1, h2, h3, h4⟩ := xor_bits hx hy
  unfold bt
  split <;> assumption
noncomputable def sgn (x s st p i : Nat) : Nat := if i < p then ltr (bt x i) s i else if i = p then st else ltr (bt x (i - 1)) s (i - 1)
noncomputable def wd (x s st p : Nat) : List Nat := let l := [ltr (bt x 0) s 0, ltr (bt x 1) s 1, ltr (bt x 2) s 2, ltr (bt x 3) s 3, ltr (bt x 4) s 4]; l.take p ++ st :: l.drop p
theorem wd_len {x s st p : Nat} (hp : p < 6) : (wd x s st p).length = 6 := by
  rcases lt6 hp with rfl | rfl | rfl | rfl | rfl | rfl <;> rfl
theorem at_wd {x s st p i : Nat} (hp : p < 6) (hi : i < 6) : at' (wd x s st p) i = sgn x s st p i := by
  rcases lt6 hp with rfl | rfl | rfl | rfl | rfl | rfl <;> rcases lt6 hi with rfl | rfl | rfl | rfl | rfl | rfl <;> rfl
section
variable {s st p : Nat} (hs : s < 22) (hp : p < 6) (hst : st = 32 ∨ st = 34 ∨ st = 92 ∨ st = 10 ∨ st = 9 ∨ st = 35)
include hs hp hst
theorem sgn_low (x : Nat) {i : Nat} (hi : i < 6) : lowN (sgn x s st p i) = (if i < p then 97 + s + i else if i = p then st else 97 + s + (i - 1)) ∧ sgn x s st p i < 128 := by
  unfold sgn
  by_cases h1 : i < p
  · rw [if_pos h1, if_pos h1]; exact low_ltr (bt_lt x i) hs (by lia)
  · rw [if_neg h1, if_neg h1]
    by_cases h2 : i = p
    · rw [if_pos h2, if_pos h2]; have := low_st hst; lia
    · rw [if_neg h2, if_neg h2]; exact low_ltr (bt_lt x (i - 1)) hs (by lia)
theorem ct_wd (x y : Nat) {i j : Nat} (hi : i < 6) (hj : j < 6) : ct (wd x s st p) (wd y s st p) i j = if sgn y s st p i = sgn x s st p j then 0 else if i = j then 1 else 2 := by
  unfold ct
  rw [at_wd hp hi, at_wd hp hj]
  have h1 := sgn_low hs hp hst y hi
  have h2 := sgn_low hs hp hst x hj
  rw [cost_tx h1.2 h2.2, h1.1, h2.1]
  have hl := low_st hst
  by_cases e : i = j
  · subst e; rw [if_pos rfl, if_pos rfl]
  · rw [if_neg e]
    congr 1
    rw [if_neg]
    have hl := hl.2
    clear hst h1 h2 hp
    split <;> split <;> (try split) <;> (try split) <;> lia
theorem wd_near (x y : Nat) : Near (wd x s st p) (wd y s st p) := by
  refine ⟨by rw [wd_len hp, wd_len hp], fun i j hi hj hn => ?_, fun i hi => ?_⟩
  · rw [wd_len hp] at hi hj
    rw [ct_wd hs hp hst x y hi hj, if_neg hn, if_neg]
    intro e
    have h1 := sgn_low hs hp hst y hi
    have h2 := sgn_low hs hp hst x hj
    rw [e, h2.1] at h1
    have hl := low_st hst
    have h3 := h1.1
    have hl := hl.2
    clear hst h1 h2 e hp
    split at h3 <;> split at h3 <;> (try split at h3) <;> (try split at h3) <;> lia
  · rw [wd_len hp] at hi
    rw [ct_wd hs hp hst x y hi hi, if_pos rfl]
    split <;> decide
theorem ct_diag (x y : Nat) {i : Nat} (hi : i < 6) : ct (wd x s st p) (wd y s st p) i i = if i < p then (((bt x i + bt y i) % 2 : Nat) : Int) else if i = p then 0 else (((bt x (i - 1) + bt y (i - 1)) % 2 : Nat) : Int) := by
  rw [ct_wd hs hp hst x y hi hi, if_pos rfl]
  have key : ∀ k, k < 5 → (if ltr (bt y k) s k = ltr (bt x k) s k then (0 : Int) else 1) = (((bt x k + bt y k) % 2 : Nat) : Int) := by
    intro k hk
    have h1 := bt_lt x k
    have h2 := bt_lt y k
    unfold ltr
    split <;> lia
  unfold sgn
  by_cases h1 : i < p
  · rw [if_pos h1, if_pos h1, if_pos h1]; exact key i (by lia)
  · rw [if_neg h1, if_neg h1, if_neg h1]
    by_cases h2 : i = p
    · rw [if_pos h2, if_pos h2, if_pos h2, if_pos rfl]
    · rw [if_neg h2, if_neg h2, if_neg h2]; exact key (i - 1) (by lia)
theorem wd_psum {x y : Nat} (hx : x < 32) (hy : y < 32) : psum (wd x s st p) (wd y s st p) 6 = ((pop (x ^^^ y) : Nat) : Int) := by
  have c := fun i hi => ct_diag hs hp hst x y (i := i) hi
  rw [pop_bt, bt_xor hx hy, bt_xor hx hy, bt_xor hx hy, bt_xor hx hy, bt_xor hx hy]
  simp only [psum]
  rw [c 0 (by decide), c 1 (by decide), c 2 (by decide), c 3 (by decide), c 4 (by decide), c 5 (by decide)]
  have this := lt6 hp
  clear c hst hs hp
  rcases this with rfl | rfl | rfl | rfl | rfl | rfl <;> simp <;> lia
end

end

section
theorem spell_wd (look : Int) : ∃ s st p : Nat, s < 22 ∧ p < 6 ∧ (st = 32 ∨ st = 34 ∨ st = 92 ∨ st = 10 ∨ st = 9 ∨ st = 35) ∧ ∀ x : Nat, spell (x : Int) look = wd x s st p := by
  obtain ⟨s, st, p, h1, h2, h3, h4, h5, h6, _⟩ := spell_forms 0 look
  refine ⟨s, st, p, h4, h5, h6, fun x => ?_⟩
  obtain ⟨s', st', p', g1, g2, g3, _, _, _, g7⟩ := spell_forms x look
  obtain rfl : s' = s := by lia
  obtain rfl : st' = st := by lia
  obtain rfl : p' = p := by lia
  exact g7
theorem flip2 {z o o' : Nat} (hz : z < 32) (ho : o < 5) (ho' : o' < 5) (hn : o ≠ o') : pop (z ^^^ 2 ^ o ^^^ 2 ^ o') + 2 * (bt z o + bt z o') = pop z + 2 := by
  have : ∀ z : Fin 32, ∀ o o' : Fin 5, o.val ≠ o'.val → pop (z.val ^^^ 2 ^ o.val ^^^ 2 ^ o'.val) + 2 * (bt z.val o.val + bt z.val o'.val) = pop z.val + 2 := by decide +kernel
  exact this ⟨z, hz⟩ ⟨o, ho⟩ ⟨o', ho'⟩ hn
theorem bits_val {z : Nat} (hz : z < 32) : z = bt z 0 + 2 * bt z 1 + 4 * bt z 2 + 8 * bt z 3 + 16 * bt z 4 := by
  have : ∀ z : Fin 32, z.val = bt z.val 0 + 2 * bt z.val 1 + 4 * bt z.val 2 + 8 * bt z.val 3 + 16 * bt z.val 4 := by decide +kernel
  exact this ⟨z, hz⟩
theorem half_eq {a b x y : Nat} (h : b + 2 * (x + y) = a + 2) : (((a : Nat) : Int) + 2 - ((b : Nat) : Int)).fdiv 2 = ((x : Nat) : Int) + ((y : Nat) : Int) := by
  rw [Int.fdiv_eq_ediv_of_nonneg _ (by decide)]; lia
theorem oddF_nat {a y0 y1 y2 y3 y4 : Nat} (h0 : y0 < 2) (h1 : y1 < 2) (h2 : y2 < 2) (h3 : y3 < 2) (h4 : y4 < 2) (ha : a = y0 + y1 + y2 + y3 + y4) :
    oddF ((a : Nat) : Int) (((y0 : Nat) : Int) + ((y1 : Nat) : Int)) (((y0 : Nat) : Int) + ((y2 : Nat) : Int)) (((y0 : Nat) : Int) + ((y3 : Nat) : Int)) = ((y0 : Nat) : Int) := by
  have : ∀ y0 y1 y2 y3 y4 : Fin 2, oddF (((y0.val + y1.val + y2.val + y3.val + y4.val : Nat) : Nat) : Int) (((y0.val : Nat) : Int) + ((y1.val : Nat) : Int)) (((y0.val : Nat) : Int) + ((y2.val : Nat) : Int)) (((y0.val : Nat) : Int) + ((y3.val : Nat) : Int)) = ((y0.val : Nat) : Int) := by decide +kernel
  rw [ha]
  exact this ⟨y0, h0⟩ ⟨y1, h1⟩ ⟨y2, h2⟩ ⟨y3, h3⟩ ⟨y4, h4⟩
theorem oddP_val {a y0 y1 y2 y3 y4 : Nat} {a1 a2 a3 o0 o1 o2 o3 o4 : Int} (h0 : y0 < 2) (h1 : y1 < 2) (h2 : y2 < 2) (h3 : y3 < 2) (h4 : y4 < 2) (ha : a = y0 + y1 + y2 + y3 + y4)
    (p1 : ((a : Int) + 2 - a1).fdiv 2 = (y0 : Int) + (y1 : Int)) (p2 : ((a : Int) + 2 - a2).fdiv 2 = (y0 : Int) + (y2 : Int)) (p3 : ((a : Int) + 2 - a3).fdiv 2 = (y0 : Int) + (y3 : Int)) :
    oddP a a1 a2 a3 o0 o1 o2 o3 o4 = (y0 : Int) * pw o0 + ((y1 : Int) * pw o1 + ((y2 : Int) * pw o2 + ((y3 : Int) * pw o3 + ((y4 : Int) * pw o4 + 0)))) := by
  unfold oddP
  rw [p1, p2, p3, oddF_nat h0 h1 h2 h3 h4 ha]
  unfold oddT
  have s : ∀ x y : Int, x + y - x = y := fun x y => by lia
  rw [s, s, s, show (a : Int) - ((y0 : Int) + ((y1 : Int) + ((y2 : Int) + ((y3 : Int) + 0)))) = (y4 : Int) by lia]
theorem tn5 {o : Int} (b : 0 ≤ o ∧ o ≤ 4) : o.toNat < 5 := by lia
theorem tn_ne {o o' : Int} (b : 0 ≤ o ∧ o ≤ 4) (b' : 0 ≤ o' ∧ o' ≤ 4) (n : o ≠ o') : o.toNat ≠ o'.toNat := by lia
theorem halve {P Q A B z y : Nat} (f : P + 2 * A = z + 2) (g : Q + 2 * B = y + 2) (e : P = Q) (e0 : z = y) : A = B := by lia
theorem bits_only {a0 a1 a2 a3 a4 b0 b1 b2 b3 b4 : Nat} (ha0 : a0 < 2) (ha1 : a1 < 2) (ha2 : a2 < 2) (ha3 : a3 < 2) (ha4 : a4 < 2) (hb0 : b0 < 2) (hb1 : b1 < 2) (hb2 : b2 < 2) (hb3 : b3 < 2) (hb4 : b4 < 2)
    (s1 : a0 + a1 = b0 + b1) (s2 : a0 + a2 = b0 + b2) (s3 : a0 + a3 = b0 + b3) (t : a0 + (a1 + (a2 + (a3 + a4))) = b0 + (b1 + (b2 + (b3 + b4)))) : a0 = b0 ∧ a1 = b1 ∧ a2 = b2 ∧ a3 = b3 ∧ a4 = b4 := by
  have : ∀ a0 b0 a1 b1 a2 b2 a3 b3 a4 b4 : Fin 2, a0.val + a1.val = b0.val + b1.val → a0.val + a2.val = b0.val + b2.val → a0.val + a3.val = b0.val + b3.val → a0.val + (a1.val + (a2.val + (a3.val + a4.val))) = b0.val + (b1.val + (b2.val + (b3.val + b4.val))) →
      a0.val = b0.val ∧ a1.val = b1.val ∧ a2.val = b2.val ∧ a3.val = b3.val ∧ a4.val = b4.val := by decide +kernel
  exact this ⟨a0, ha0⟩ ⟨b0, hb0⟩ ⟨a1, ha1⟩ ⟨b1, hb1⟩ ⟨a2, ha2⟩ ⟨b2, hb2⟩ ⟨a3, ha3⟩ ⟨b3, hb3⟩ ⟨a4, ha4⟩ ⟨b4, hb4⟩ s1 s2 s3 t
section
variable {o0 o1 o2 o3 o4 : Int} (hP : [o0, o1, o2, o3, o4].Perm [0, 1, 2, 3, 4])
include hP
theorem perm_sum (f : Int → Int) : f o0 + (f o1 + (f o2 + (f o3 + (f o4 + 0)))) = f 0 + (f 1 + (f 2 + (f 3 + (f 4 + 0)))) := by
  have key : ∀ {a b : List Int}, a.Perm b → (a.map f).foldr (· + ·) 0 = (b.map f).foldr (· + ·) 0 := by
    intro a b h
    induction h with
    | nil => rfl
    | cons x _ ih => simp only [List.map_cons, List.foldr_cons, ih]
    | swap x y l => simp only [List.map_cons, List.foldr_cons]; lia
    | trans _ _ i1 i2 => exact i1.trans i2
  exact key hP
theorem perm_ne : o0 ≠ o1 ∧ o0 ≠ o2 ∧ o0 ≠ o3 := by
  have hn : [o0, o1, o2, o3, o4].Nodup := hP.nodup_iff.mpr (by decide)
  simp only [List.nodup_cons, List.mem_cons, not_or, List.not_mem_nil, not_false_eq_true] at hn
  exact ⟨hn.1.1, hn.1.2.1, hn.1.2.2.1⟩
theorem perm_all {q : Int → Prop} (h0 : q o0) (h1 : q o1) (h2 : q o2) (h3 : q o3) (h4 : q o4) : q 0 ∧ q 1 ∧ q 2 ∧ q 3 ∧ q 4 := by
  have key : ∀ j, j ∈ [0, 1, 2, 3, 4] → q j := fun j hj => by
    have := hP.mem_iff.mpr hj
    simp only [List.mem_cons, List.not_mem_nil, or_false] at this
    rcases this with rfl | rfl | rfl | rfl | rfl <;> assumption
  exact ⟨key 0 (by simp), key 1 (by simp), key 2 (by simp), key 3 (by simp), key 4 (by simp)⟩
theorem pop_perm (z : Nat) : bt z o0.toNat + (bt z o1.toNat + (bt z o2.toNat + (bt z o3.toNat + bt z o4.toNat))) = pop z := by
  have s := perm_sum hP fun o => ((bt z o.toNat : Nat) : Int)
  have p := pop_bt z
  (try dsimp only at s)
  rw [show (0 : Int).toNat = 0 from rfl, show (1 : Int).toNat = 1 from rfl, show (2 : Int).toNat = 2 from rfl, show (3 : Int).toNat = 3 from rfl, show (4 : Int).toNat = 4 from rfl] at s
  lia
/-- four askings tell all -/
theorem only_one {z y : Nat} (hz : z < 32) (hy : y < 32) (b0 : 0 ≤ o0 ∧ o0 ≤ 4) (b1 : 0 ≤ o1 ∧ o1 ≤ 4) (b2 : 0 ≤ o2 ∧ o2 ≤ 4) (b3 : 0 ≤ o3 ∧ o3 ≤ 4)
    (e0 : pop z = pop y) (e1 : pop (z ^^^ 2 ^ o0.toNat ^^^ 2 ^ o1.toNat) = pop (y ^^^ 2 ^ o0.toNat ^^^ 2 ^ o1.toNat)) (e2 : pop (z ^^^ 2 ^ o0.toNat ^^^ 2 ^ o2.toNat) = pop (y ^^^ 2 ^ o0.toNat ^^^ 2 ^ o2.toNat))
    (e3 : pop (z ^^^ 2 ^ o0.toNat ^^^ 2 ^ o3.toNat) = pop (y ^^^ 2 ^ o0.toNat ^^^ 2 ^ o3.toNat)) : z = y := by
  obtain ⟨n1, n2, n3⟩ := perm_ne hP
  have s1 := halve (flip2 hz (tn5 b0) (tn5 b1) (tn_ne b0 b1 n1)) (flip2 hy (tn5 b0) (tn5 b1) (tn_ne b0 b1 n1)) e1 e0
  have s2 := halve (flip2 hz (tn5 b0) (tn5 b2) (tn_ne b0 b2 n2)) (flip2 hy (tn5 b0) (tn5 b2) (tn_ne b0 b2 n2)) e2 e0
  have s3 := halve (flip2 hz (tn5 b0) (tn5 b3) (tn_ne b0 b3 n3)) (flip2 hy (tn5 b0) (tn5 b3) (tn_ne b0 b3 n3)) e3 e0
  obtain ⟨r0, r1, r2, r3, r4⟩ := bits_only (bt_lt z _) (bt_lt z _) (bt_lt z _) (bt_lt z _) (bt_lt z _) (bt_lt y _) (bt_lt y _) (bt_lt y _) (bt_lt y _) (bt_lt y _) s1 s2 s3 ((pop_perm hP z).trans (e0.trans (pop_perm hP y).symm))
  obtain ⟨q0, q1, q2, q3, q4⟩ := perm_all hP (q := fun o => bt z o.toNat = bt y o.toNat) r0 r1 r2 r3 r4
  have q0 : bt z 0 = bt y 0 := q0
  have q1 : bt z 1 = bt y 1 := q1
  have q2 : bt z 2 = bt y 2 := q2
  have q3 : bt z 3 = bt y 3 := q3
  have q4 : bt z 4 = bt y 4 := q4
  exact (bits_val hz).trans ((by rw [q0, q1, q2, q3, q4] : bt z 0 + 2 * bt z 1 + 4 * bt z 2 + 8 * bt z 3 + 16 * bt z 4 = bt y 0 + 2 * bt y 1 + 4 * bt y 2 + 8 * bt y 3 + 16 * bt y 4).trans (bits_val hy).symm)
set_option maxHeartbeats 1000000 in
/-- the odd places are those -/
theorem odd_law {y : Nat} (hy : y < 32) (b0 : 0 ≤ o0 ∧ o0 ≤ 4) (b1 : 0 ≤ o1 ∧ o1 ≤ 4) (b2 : 0 ≤ o2 ∧ o2 ≤ 4) (b3 : 0 ≤ o3 ∧ o3 ≤ 4) (b4 : 0 ≤ o4 ∧ o4 ≤ 4) :
    oddP ((pop y : Nat) : Int) ((pop (y ^^^ 2 ^ o0.toNat ^^^ 2 ^ o1.toNat) : Nat) : Int) ((pop (y ^^^ 2 ^ o0.toNat ^^^ 2 ^ o2.toNat) : Nat) : Int) ((pop (y ^^^ 2 ^ o0.toNat ^^^ 2 ^ o3.toNat) : Nat) : Int) o0 o1 o2 o3 o4 = (y : Int) := by
  obtain ⟨n1, n2, n3⟩ := perm_ne hP
  have hs := (pop_perm hP y).symm
  rw [oddP_val (bt_lt y _) (bt_lt y _) (bt_lt y _) (bt_lt y _) (bt_lt y o4.toNat) (by rw [hs]; simp only [Nat.add_assoc]) (half_eq (flip2 hy (tn5 b0) (tn5 b1) (tn_ne b0 b1 n1))) (half_eq (flip2 hy (tn5 b0) (tn5 b2) (tn_ne b0 b2 n2))) (half_eq (flip2 hy (tn5 b0) (tn5 b3) (tn_ne b0 b3 n3)))]
  have vy := bits_val hy
  clear hs n1 n2 n3 b0 b1 b2 b3 b4
  have sp := perm_sum hP fun o => ((bt y o.toNat : Nat) : Int) * pw o
  (try dsimp only at sp)
  rw [show (0 : Int).toNat = 0 from rfl, show (1 : Int).toNat = 1 from rfl, show (2 : Int).toNat = 2 from rfl, show (3 : Int).toNat = 3 from rfl, show (4 : Int).toNat = 4 from rfl] at sp
  have w0 : pw 0 = 1 := pw_eq 0
  have w1 : pw 1 = 2 := pw_eq 1
  have w2 : pw 2 = 4 := pw_eq 2
  have w3 : pw 3 = 8 := pw_eq 3
  have w4 : pw 4 = 16 := pw_eq 4
  rw [w0, w1, w2, w3, w4] at sp
  rw [sp]
  clear sp
  lia
end

end

section
theorem filter_one {h : Nat} (hh : h < 32) : (List.range 32).filter (fun n => decide (n = h)) = [h] := by
  have : ∀ h : Fin 32, (List.range 32).filter (fun n => decide (n = h.val)) = [h.val] := by decide +kernel
  exact this ⟨h, hh⟩
noncomputable def wf {α : Type} (a b c d e : α) (k : Nat) : α := match k with | 0 => a | 1 => b | 2 => c | 3 => d | _ => e
theorem left_one {μ dist : Nat → Nat} {h : Nat} (hh : h < 32) (ho : ∀ n, n < 32 → ((∀ k, k < 4 → pop (n ^^^ μ k) = dist k) ↔ n = h)) : left μ dist 4 = [h] := by
  rw [← filter_one hh]
  show (((((List.range 32).filter (passes μ dist 0)).filter (passes μ dist 1)).filter (passes μ dist 2)).filter (passes μ dist 3)) = _
  rw [List.filter_filter, List.filter_filter, List.filter_filter]
  apply List.filter_congr
  intro n hn
  have hn := List.mem_range.mp hn
  have := ho n hn
  unfold passes
  by_cases e : n = h
  · have h4 := this.mpr e
    rw [h4 0 (by decide), h4 1 (by decide), h4 2 (by decide), h4 3 (by decide)]
    simp [e]
  · rw [decide_eq_false e]
    apply Bool.eq_false_iff.mpr
    intro hb
    simp only [Bool.and_eq_true, decide_eq_true_eq] at hb
    refine e (this.mp fun k hk => ?_)
    have := lt4 (by assumption : k < 4)
    rcases this with rfl | rfl | rfl | rfl
    · exact hb.2
    · exact hb.1.2
    · exact hb.1.1.2
    · exact hb.1.1.1
theorem xor_cancel {a b m : Nat} (h : a ^^^ m = b ^^^ m) : a = b := by
  have : (a ^^^ m) ^^^ m = (b ^^^ m) ^^^ m := by rw [h]
  rw [Nat.xor_assoc, Nat.xor_assoc, Nat.xor_self, Nat.xor_zero, Nat.xor_zero] at this
  exact this
theorem xr_cast {a b : Nat} (ha : a < 32) (hb : b < 32) : xr (a : Int) (b : Int) = ((a ^^^ b : Nat) : Int) := by rw [xr_eq]; exact xr_nat ha hb
theorem pw_cast {o : Int} (h : 0 ≤ o ∧ o ≤ 4) : pw o = ((2 ^ o.toNat : Nat) : Int) ∧ 2 ^ o.toNat < 32 := by
  rw [pw_eq]
  have := le4i h.1 h.2
  rcases this with rfl | rfl | rfl | rfl | rfl <;> decide
/-- the marks, as they are asked -/
theorem law_asks {c1 c2 o0 o1 o2 o3 o4 : Int} (look : Int) (hP : [o0, o1, o2, o3, o4].Perm [0, 1, 2, 3, 4]) (b0 : 0 ≤ o0 ∧ o0 ≤ 4) (b1 : 0 ≤ o1 ∧ o1 ≤ 4) (b2 : 0 ≤ o2 ∧ o2 ≤ 4) (b3 : 0 ≤ o3 ∧ o3 ≤ 4) (b4 : 0 ≤ o4 ∧ o4 ≤ 4) :
    ∃ m h m1 m2 m3 d0 d1 d2 d3 : Nat, c1.fmod 32 = (m : Int) ∧ c2.fmod 32 = (h : Int) ∧ xr (xr (c1.fmod 32) (pw o0)) (pw o1) = (m1 : Int) ∧ xr (xr (c1.fmod 32) (pw o0)) (pw o2) = (m2 : Int) ∧ xr (xr (c1.fmod 32) (pw o0)) (pw o3) = (m3 : Int) ∧
      m < 32 ∧ h < 32 ∧ m1 < 32 ∧ m2 < 32 ∧ m3 < 32 ∧ left (wf m m1 m2 m3 0) (wf d0 d1 d2 d3 0) 4 = [h] ∧
      (∀ x y : Nat, x < 32 → y < 32 → Near (spell (x : Int) look) (spell (y : Int) look) ∧ psum (spell (x : Int) look) (spell (y : Int) look) 6 = ((pop (x ^^^ y) : Nat) : Int)) ∧
      pop (m ^^^ h) = d0 ∧ pop (m1 ^^^ h) = d1 ∧ pop (m2 ^^^ h) = d2 ∧ pop (m3 ^^^ h) = d3 ∧
      xr (oddP (d0 : Int) (d1 : Int) (d2 : Int) (d3 : Int) o0 o1 o2 o3 o4) (c1.fmod 32) = c2.fmod 32 := by
  have a0 := Int.fmod_nonneg_of_pos c1 (show (0:Int) < 32 by decide)
  have a1 := Int.fmod_lt_of_pos c1 (show (0:Int) < 32 by decide)
  have a2 := Int.fmod_nonneg_of_pos c2 (show (0:Int) < 32 by decide)
  have a3 := Int.fmod_lt_of_pos c2 (show (0:Int) < 32 by decide)
  obtain ⟨m, hm⟩ : ∃ m : Nat, c1.fmod 32 = (m : Int) := ⟨_, (Int.toNat_of_nonneg a0).symm⟩
  obtain ⟨h, hh⟩ : ∃ h : Nat, c2.fmod 32 = (h : Int) := ⟨_, (Int.toNat_of_nonneg a2).symm⟩
  have m32 : m < 32 := by lia
  have h32 : h < 32 := by lia
  obtain ⟨p0, q0⟩ := pw_cast b0
  obtain ⟨p1, q1⟩ := pw_cast b1
  obtain ⟨p2, q2⟩ := pw_cast b2
  obtain ⟨p3, q3⟩ := pw_cast b3
  have hx0 := xor_small m32 q0
  have y32 : h ^^^ m < 32 := xor_small h32 m32
  rw [hm, hh, p0, p1, p2, p3, xr_cast m32 q0, xr_cast hx0 q1, xr_cast hx0 q2, xr_cast hx0 q3]
  have key : ∀ n k : Nat, n ^^^ (m ^^^ 2 ^ o0.toNat ^^^ k) = (n ^^^ m) ^^^ 2 ^ o0.toNat ^^^ k := fun n k => by rw [Nat.xor_assoc, Nat.xor_assoc, Nat.xor_assoc]
  have key2 : ∀ k : Nat, (m ^^^ 2 ^ o0.toNat ^^^ k) ^^^ h = (h ^^^ m) ^^^ 2 ^ o0.toNat ^^^ k := fun k => by rw [Nat.xor_comm _ h, key]
  refine ⟨m, h, _, _, _, pop (h ^^^ m), pop ((h ^^^ m) ^^^ 2 ^ o0.toNat ^^^ 2 ^ o1.toNat), pop ((h ^^^ m) ^^^ 2 ^ o0.toNat ^^^ 2 ^ o2.toNat), pop ((h ^^^ m) ^^^ 2 ^ o0.toNat ^^^ 2 ^ o3.toNat), rfl, rfl, rfl, rfl, rfl, m32, h32, xor_small hx0 q1, xor_small hx0 q2, xor_small hx0 q3, ?_, ?_, ?_, ?_, ?_, ?_, ?_⟩
  · refine left_one h32 fun n hn => ⟨fun H => ?_, fun e k hk => ?_⟩
    · have e0 := H 0 (by decide)
      have e1 := H 1 (by decide)
      have e2 := H 2 (by decide)
      have e3 := H 3 (by decide)
      simp only [wf] at e0 e1 e2 e3
      rw [key] at e1 e2 e3
      exact xor_cancel (only_one hP (xor_small hn m32) y32 b0 b1 b2 b3 e0 e1 e2 e3)
    · subst e
      have := lt4 (by assumption : k < 4)
      rcases this with rfl | rfl | rfl | rfl
      · rfl
      · simp only [wf]; rw [key]
      · simp only [wf]; rw [key]
      · simp only [wf]; rw [key]
  · intro x y hx hy
    obtain ⟨s, st, p, hs, hp, hst, hw⟩ := spell_wd look
    rw [hw x, hw y]
    exact ⟨wd_near hs hp hst x y, wd_psum hs hp hst hx hy⟩
  · rw [Nat.xor_comm]
  · rw [key2]
  · rw [key2]
  · rw [key2]
  · rw [odd_law hP y32 b0 b1 b2 b3 b4, xr_cast y32 m32, Nat.xor_assoc, Nat.xor_self, Nat.xor_zero]
/-- what is so behind the asking, as the law asks it -/
inductive Ask6 (w : World) (x dx st dst f c' cell sl pb x2 dx2 pb2 lm : Addr) (k1 k2 k3 k4 j1 j2 j3 j4 j5 tw jl jw : Tok) (jln : Int) (jws : PySem.Str) (jpb : Value)
    (name qual : PySem.Str) (P : Arguments) (Bd : PySem.Expr) (Sc : Scope) (cl : List (PySem.Str × Addr)) (pm ctv : Value) (oc ocell : Obj) (ln : Int) (e : Nat)
    (q1 q2 q3 q4 tl2 tw2 : Tok) (ln2 : Int) (ins2 : Value) (ws2 : PySem.Str) (nm : Nat) (c1 c2 o0 o1 o2 o3 o4 look y0 y1 y2 y3 y4 : Int) (rest : List Value) (u0 u1 u2 u3 : Tok) : Value → List (Addr × Obj) → Prop
  | mk (tup ll lt lw nw nt nn2 n' tl' wt0 wt1 wt2 wt3 wt4 dt0 dt1 dt2 dt3 th tn) (m h m1 m2 m3 d0 d1 d2 d3 : Nat) : (Apart [tup, ll, lt, lw, x, dx, st, dst, f, c', cell, sl, pb, x2, dx2, pb2, lm]) → (c1.fmod 32 = (m : Int)) → (c2.fmod 32 = (h : Int)) → (xr (xr (c1.fmod 32) (pw o0)) (pw o1) = (m1 : Int)) → (xr (xr (c1.fmod 32) (pw o0)) (pw o2) = (m2 : Int)) → (xr (xr (c1.fmod 32) (pw o0)) (pw o3) = (m3 : Int)) → (m < 32) → (h < 32) → (m1 < 32) → (m2 < 32) → (m3 < 32) → (pop (m ^^^ h) = d0) → (pop (m1 ^^^ h) = d1) → (pop (m2 ^^^ h) = d2) → (pop (m3 ^^^ h) = d3) → (xr (oddP (d0 : Int) (d1 : Int) (d2 : Int) (d3 : Int) o0 o1 o2 o3 o4) (c1.fmod 32) = c2.fmod 32) →
    Ask6 w x dx st dst f c' cell sl pb x2 dx2 pb2 lm k1 k2 k3 k4 j1 j2 j3 j4 j5 tw jl jw jln jws jpb name qual P Bd Sc cl pm ctv oc ocell ln e q1 q2 q3 q4 tl2 tw2 ln2 ins2 ws2 nm c1 c2 o0 o1 o2 o3 o4 look y0 y1 y2 y3 y4 rest u0 u1 u2 u3 (.ref tup) ([(tup, { cls := .type "tuple", data := .seq #[.ref lw, .ref lt, .ref ll] tn }), (ll, LCg.lst [.int (c2.fmod 32) th]),
            (lt, listOf #[.int (d0 : Int) dt0, .int (d1 : Int) dt1, .int (d2 : Int) dt2, .int (d3 : Int) dt3] nt),
            (lw, listOf #[.str (tx (spell (c1.fmod 32) look)) wt0, .str (tx (spell (xr (xr (c1.fmod 32) (pw o0)) (pw o1)) look)) wt1, .str (tx (spell (xr (xr (c1.fmod 32) (pw o0)) (pw o2)) look)) wt2,
              .str (tx (spell (xr (xr (c1.fmod 32) (pw o0)) (pw o3)) look)) wt3, .str (tx (spell (c2.fmod 32) look)) wt4] nw),
            (lm, listOf #[.int (c1.fmod 32) u0, .int (xr (xr (c1.fmod 32) (pw o0)) (pw o1)) u1, .int (xr (xr (c1.fmod 32) (pw o0)) (pw o2)) u2, .int (xr (xr (c1.fmod 32) (pw o0)) (pw o3)) u3] nm),
            (x2, instObj 66 dx2), (dx2, lexDict w q1 q2 q3 q4 (.int ln2 tl2) ins2 (.str ws2 tw2) (.ref pb2)), (pb2, listOf #[] nn2), (pb, listOf #[] e)] ++
          lexL w x dx st dst f c' cell sl pb k1 k2 k3 k4 j1 j2 j3 j4 j5 tw jl jw tl' jln jws jpb name qual P Bd Sc cl pm ctv oc ocell
            (ln + (((wrt (spell (c1.fmod 32) look) y0).count 10 : Nat) : Int) + (((wrt (spell (xr (xr (c1.fmod 32) (pw o0)) (pw o1)) look) y1).count 10 : Nat) : Int) + (((wrt (spell (xr (xr (c1.fmod 32) (pw o0)) (pw o2)) look) y2).count 10 : Nat) : Int) +
              (((wrt (spell (xr (xr (c1.fmod 32) (pw o0)) (pw o3)) look) y3).count 10 : Nat) : Int) + (((wrt (spell (c2.fmod 32) look) y4).count 10 : Nat) : Int)) rest n')
/-- the asking, as the law asks it -/
theorem asked6_spec (w : World) (x dx st dst f c' cell sl pb x2 dx2 pb2 lm : Addr) (k1 k2 k3 k4 j1 j2 j3 j4 j5 tw jl jw tl : Tok) (jln : Int) (jws : PySem.Str) (jpb : Value)
    (name qual : PySem.Str) (P : Arguments) (Bd : PySem.Expr) (Sc : Scope) (cl : List (PySem.Str × Addr)) (pm ctv : Value) (oc ocell : Obj) (ln : Int) (n e : Nat)
    (q1 q2 q3 q4 tl2 tw2 : Tok) (ln2 : Int) (ins2 : Value) (ws2 : PySem.Str) (e2 nm : Nat)
    (c1 c2 o0 o1 o2 o3 o4 look y0 y1 y2 y3 y4 : Int) (v0 v1 v2 v3 v4 rest : List Value) (u0 u1 u2 u3 : Tok)
    (hap : Apart [x, dx, st, dst, f, c', cell, sl, pb, x2, dx2, pb2, lm]) (HR : Lam w f c' cell sl name qual P Bd Sc cl pm ctv oc ocell)
    (S0 : Sg v0 (wrt (spell (c1.fmod 32) look) y0)) (S1 : Sg v1 (wrt (spell (xr (xr (c1.fmod 32) (pw o0)) (pw o1)) look) y1)) (S2 : Sg v2 (wrt (spell (xr (xr (c1.fmod 32) (pw o0)) (pw o2)) look) y2))
    (S3 : Sg v3 (wrt (spell (xr (xr (c1.fmod 32) (pw o0)) (pw o3)) look) y3)) (S4 : Sg v4 (wrt (spell (c2.fmod 32) look) y4)) (hz : (v0 ++ (v1 ++ (v2 ++ (v3 ++ (v4 ++ rest))))).length ≤ 900)
    (hP : [o0, o1, o2, o3, o4].Perm [0, 1, 2, 3, 4]) (b0 : 0 ≤ o0 ∧ o0 ≤ 4) (b1 : 0 ≤ o1 ∧ o1 ≤ 4) (b2 : 0 ≤ o2 ∧ o2 ≤ 4) (b3 : 0 ≤ o3 ∧ o3 ≤ 4) (b4 : 0 ≤ o4 ∧ o4 ≤ 4) :
    Spec w 178 8 [.ref x, .ref x2, .ref lm] (((pb, listOf #[] e) :: lexL w x dx st dst f c' cell sl pb k1 k2 k3 k4 j1 j2 j3 j4 j5 tw jl jw tl jln jws jpb name qual P Bd Sc cl pm ctv oc ocell ln (v0 ++ (v1 ++ (v2 ++ (v3 ++ (v4 ++ rest))))) n) ++
        [(x2, instObj 66 dx2), (dx2, lexDict w q1 q2 q3 q4 (.int ln2 tl2) ins2 (.str ws2 tw2) (.ref pb2)), (pb2, listOf #[] e2),
          (lm, listOf #[.int (c1.fmod 32) u0, .int (xr (xr (c1.fmod 32) (pw o0)) (pw o1)) u1, .int (xr (xr (c1.fmod 32) (pw o0)) (pw o2)) u2, .int (xr (xr (c1.fmod 32) (pw o0)) (pw o3)) u3] nm)])
      (Ask6 w x dx st dst f c' cell sl pb x2 dx2 pb2 lm k1 k2 k3 k4 j1 j2 j3 j4 j5 tw jl jw jln jws jpb name qual P Bd Sc cl pm ctv oc ocell ln e q1 q2 q3 q4 tl2 tw2 ln2 ins2 ws2 nm c1 c2 o0 o1 o2 o3 o4 look y0 y1 y2 y3 y4 rest u0 u1 u2 u3) := by
  obtain ⟨m, h, m1, m2, m3, d0, d1, d2, d3, e0, e1, e2', e3, e4, s0, s1, s2, s3, s4, hl, hn, r0, r1, r2, r3, hx⟩ := law_asks (c1 := c1) (c2 := c2) look hP b0 b1 b2 b3 b4
  have pl : ∀ n, pop n ≤ 5 := fun n => by unfold pop; lia
  have S := asked_spec w x dx st dst f c' cell sl pb x2 dx2 pb2 lm k1 k2 k3 k4 j1 j2 j3 j4 j5 tw jl jw tl jln jws jpb name qual P Bd Sc cl pm ctv oc ocell ln n e q1 q2 q3 q4 tl2 tw2 ln2 ins2 ws2 e2 nm
    (wf (spell (c1.fmod 32) look) (spell (xr (xr (c1.fmod 32) (pw o0)) (pw o1)) look) (spell (xr (xr (c1.fmod 32) (pw o0)) (pw o2)) look) (spell (xr (xr (c1.fmod 32) (pw o0)) (pw o3)) look) (spell (c2.fmod 32) look)) (wf y0 y1 y2 y3 y4)
    v0 v1 v2 v3 v4 rest (wf m m1 m2 m3 0) (wf d0 d1 d2 d3 0) h [.int (c1.fmod 32) u0, .int (xr (xr (c1.fmod 32) (pw o0)) (pw o1)) u1, .int (xr (xr (c1.fmod 32) (pw o0)) (pw o2)) u2, .int (xr (xr (c1.fmod 32) (pw o0)) (pw o3)) u3]
    hap HR ?hW S0 S1 S2 S3 S4 hz ?hN ?hp ?hd ?hμ ?hms hl
  case hW =>
    intro k hk
    unfold wf
    split <;> exact spell_length _ _
  case hN =>
    intro k hk
    have := lt4 (by assumption : k < 4)
    rcases this with rfl | rfl | rfl | rfl <;> simp only [wf]
    · rw [e0, e1]; exact (hn m h s0 s1).1
    · rw [e2', e1]; exact (hn m1 h s2 s1).1
    · rw [e3, e1]; exact (hn m2 h s3 s1).1
    · rw [e4, e1]; exact (hn m3 h s4 s1).1
  case hp =>
    intro k hk
    have := lt4 (by assumption : k < 4)
    rcases this with rfl | rfl | rfl | rfl <;> simp only [wf] <;> rw [spell_length]
    · rw [e0, e1, (hn m h s0 s1).2, r0]
    · rw [e2', e1, (hn m1 h s2 s1).2, r1]
    · rw [e3, e1, (hn m2 h s3 s1).2, r2]
    · rw [e4, e1, (hn m3 h s4 s1).2, r3]
  case hd =>
    intro k hk
    have := lt4 (by assumption : k < 4)
    rcases this with rfl | rfl | rfl | rfl <;> simp only [wf]
    · rw [← r0]; exact pl _
    · rw [← r1]; exact pl _
    · rw [← r2]; exact pl _
    · rw [← r3]; exact pl _
  case hμ =>
    intro k hk
    have := lt4 (by assumption : k < 4)
    rcases this with rfl | rfl | rfl | rfl <;> simp only [wf] <;> assumption
  case hms =>
    intro k hk
    have := lt4 (by assumption : k < 4)
    rcases this with rfl | rfl | rfl | rfl
    · exact ⟨u0, by rw [e0]; rfl⟩
    · exact ⟨u1, by rw [e2']; rfl⟩
    · exact ⟨u2, by rw [e3]; rfl⟩
    · exact ⟨u3, by rw [e4]; rfl⟩
  refine S.mono fun v' news hp' => ?_
  induction hp'
  rename_i tup ll lt lw nw nt nn2 n' tl' wt0 wt1 wt2 wt3 wt4 dt0 dt1 dt2 dt3 th tn ap
  rw [← e1]
  exact Ask6.mk tup ll lt lw nw nt nn2 n' tl' wt0 wt1 wt2 wt3 wt4 dt0 dt1 dt2 dt3 th tn m h m1 m2 m3 d0 d1 d2 d3 ap e0 e1 e2' e3 e4 s0 s1 s2 s3 s4 r0 r1 r2 r3 hx

end

section
theorem getD_nonneg {ns : List Int} (h : ∀ x : Int, x ∈ ns → 0 ≤ x) (k : Nat) : 0 ≤ ns.getD k 0 := by
  rw [List.getD_eq_getElem?_getD]
  cases e : ns[k]? with
  | none => exact Int.le_refl 0
  | some v => exact h v (List.mem_of_getElem? e)
theorem cells_set {ns : List Int} {k : Nat} {x : Int} (hl : ns.length = 5) (h : ∀ x : Int, x ∈ ns → 0 ≤ x) (hx : 0 ≤ x) : (ns.set k x).length = 5 ∧ ∀ y : Int, y ∈ ns.set k x → 0 ≤ y := by
  refine ⟨by rw [List.length_set]; exact hl, fun y hy => ?_⟩
  rcases List.mem_or_eq_of_mem_set hy with h1 | h1
  · exact h y h1
  · rw [h1]; exact hx
theorem codehd172 (w : World) : ∀ g, (hd.heap_19 w.params).In g → CodeHd g 172 168 := by
  intro g X
  exact ⟨_, _, _, _, _, _, _, _, _, X 172 _ rfl, rfl, rfl, rfl, rfl, rfl, rfl, rfl, rfl, by decide⟩
theorem wrt_len (cs : List Nat) (way : Int) : (wrt cs way).length ≤ 2 * cs.length + 2 := by
  unfold wrt
  split
  · have := flat_len esc_len cs
    simp only [List.length_append, List.length_cons, List.length_nil]
    lia
  · have := flat_len bs_len cs
    simp only [List.length_append, List.length_cons, List.length_nil]
    lia
theorem five_len {a b c d e : List Nat} (ha : a.length ≤ 14) (hb : b.length ≤ 14) (hc : c.length ≤ 14) (hd : d.length ≤ 14) (he : e.length ≤ 14) : [a, b, c, d, e].flatten.length ≤ 70 := by
  simp only [List.flatten_cons, List.flatten_nil, List.length_append, List.length_nil]
  lia
theorem wrt_14 (x look way : Int) : (wrt (spell x look) way).length ≤ 14 := by
  have := wrt_len (spell x look) way
  rw [spell_length] at this
  exact this
theorem strs5 {a b c d e : List Nat} {t0 t1 t2 t3 t4 : Tok} : StrsAre [.str (tx a) t0, .str (tx b) t1, .str (tx c) t2, .str (tx d) t3, .str (tx e) t4] ([a, b, c, d, e].map tx) :=
  .cons _ _ (.cons _ _ (.cons _ _ (.cons _ _ (.cons _ _ .nil))))
section
variable {prog : Program} {w : World} {A : Around} {E : Value → Shared → Prop} {s : Shared} {h₀ : Heap} {L : Addr} {m : PySem.Str → Option Value} {news : List (Addr × Obj)} {t u : Tok} {es : List Nat} {Q : Value → Shared → Prop}
theorem add_end (hz : es.length ≤ 900) (h : ∀ t' k, Q (.str (tx (es ++ [10, 32])) t') { s with toks := k }) : wpAny (model prog w) A (binaryOp .Add (.str (tx es) t) (.str (PySem.Str.ofString "\n ") u)) Q E s :=
  add_tx (a := es) (b := [10, 32]) (by show es.length + 2 ≤ 1000; lia) h
theorem list_tx (hh : A.handled = none) (F : Fr h₀ L s.heap m) (N : News h₀ L s.heap news) (hz : es.length ≤ 900)
    (h : ∀ D h' tk vs n, Sg vs es → Fr h₀ L h' m → News h₀ L h' ((D, listOf vs.toArray n) :: news) → (∀ p ∈ news, p.1 < D) → Q (.ref D) { s with heap := h', toks := tk }) :
    wpAny (model prog w) A (PySem.call (.type "list") [.str (tx es) t]) Q E s := by
  refine list_strD hh F N (fun h' tk ys F' N' hk h0 hl hnp hc => ?_) (by rw [tx_length, sizeLine_eq]; lia)
  obtain ⟨⟨c, hg⟩, _⟩ := hnp
  have hs : StrsAre ys (PyProof.Rows.signs (tx es)) := StrsAre.of_carried hc
  have e : PyProof.Rows.signs (tx es) = es.map fun c => tx [c] := by simp [PyProof.Rows.signs, tx]
  rw [e] at hs
  refine h _ h' tk ys c hs F' (fun p hp => ?_) (fun p hp => Heap.lt_size (N p hp).1)
  rcases List.mem_cons.mp hp with rfl | hp
  · exact ⟨hg, Ne.symm (Nat.ne_of_lt F.ns.lt), h0⟩
  · exact N' p hp
end

end

section
theorem words_use : True := by
  k_with_none
  k_with "k_room" => (first | decide | ((try simp only [depth_under_make, depth_under_kw, depth_in1, depth_deeper, depth_caller]); lia))
  k_with "eval ListComp" => ((k_here; k_dflt (refine LCg.ListComp_U (F₀ := by k_asm) (by with_unfolding_all rfl) (by decide) (by rfl) (by decide) (by rfl) ?_); k_dflt lcg_toSrc))
  k_with "exec Assign cons ListComp" => ((k_here; k_dflt (refine LCg.Assign_ListComp_U (F₀ := by k_asm) (by rfl) (by with_unfolding_all rfl) (by with_unfolding_all rfl) (by decide) (by rfl) (by decide) (by rfl) (by rfl) (by rfl) ?_); k_dflt lcg_toSrc))
  k_with "CompSrc" => ((k_here; k_dflt (first | (refine LCg.CompSrc.ledger (by rfl) (by k_asm) (by k_asm) (by k_mem) (by first | exact Nat.le_of_ble_eq_true rfl | size_fits) ?_; intro g'; lcg_lit) | (refine LCg.CompSrc.range (by rfl) (by k_asm) (by k_asm) (by assumption) (by first | decide | rfl) (by first | rfl | decide) (by first | exact Nat.le_of_ble_eq_true rfl | size_fits) ?_; intro g'; lcg_lit))))
  k_with "binaryOp Pow int int" => ((k_here; with_reducible refine pow_pw ?kb1 ?kb2 ?_; (case kb1 => assumption); (case kb2 => assumption)))
  k_with "binaryOp Mult int int" => ((k_here; with_reducible refine mul_pw ?kb1 ?kb2 ?_; (case kb1 => assumption); (case kb2 => assumption)))
  k_with "binaryOp BitXor int int" => ((k_here; with_reducible refine xor_xr ?_))
  k_with "CompRest" => ((with_unfolding_all first | (refine LCg.CompRest.succ ?_; intro v' I' oI' C' oC' D' m' h' tk' E' hv' hC' hx' F' N' off' ne'; (first | lcg_open hv' | (obtain ⟨t9', hv9'⟩ := hv'; subst hv9')); (obtain ⟨neIC', neID', neCD'⟩ := ne')) | refine LCg.CompRest.zero ?_))
  k_with "lcg_off" => (with_reducible assumption)
  k_with "CompEnd" => (lcg_end)
  k_with "eval Name" => ((k_here; k_dflt (first
  | (refine' nameX_L ?F ?v ?_ ?a ?b; (case F => k_asm); (case a => rfl); (case b => rfl); (case v => rfl); k_whole)
  | (refine' nameX_C ?N ?c ?m ?d ?_ ?a ?b; (case a => rfl); (case b => rfl); (case N => k_asm); (case c => rfl); (case m => k_mem); (case d => k_asm); k_whole)
  | (refine' nameX_K ?F ?X ?T ?e ?_ ?a ?b; (case F => k_asm); (case X => k_asm); (case T => k_asm); (case a => rfl); (case b => rfl); (case e => k_is); k_whole))))
  k_with "eval Name" => ((k_here; (with_reducible show wpAny _ _ (eval (PySem.Expr.Name _ _) (compEnvC _ _ _ _)) _ _ _); k_dflt (first
  | (refine LCgL.ld_own (by k_asm) (by k_mem) (by assumption) (by assumption) ?_)
  | (refine' lcf_cell ?N ?c ?m ?d ?_ ?a ?b; (case a => rfl); (case b => rfl); (case N => k_asm); (case c => rfl); (case m => k_mem); (case d => k_asm); k_whole)
  | (refine' lcf_free ?N ?c ?m ?d ?_ ?a ?b; (case a => rfl); (case b => rfl); (case N => k_asm); (case c => rfl); (case m => k_mem); (case d => k_asm); k_whole)
  | (refine LCgL.ld_global (by k_asm) (by k_asm) (by k_asm) (by k_is) ?_))))
  k_with "FinE" => (((unfold LCg.FinE); intro D' h' tk' F' N' oq9'; (try simp only [List.nil_append, List.cons_append] at N'); (try dsimp only)))
  k_with "FinA" => (((unfold LCg.FinA); intro D' h' tk' F' N' oq9'; (try simp only [List.nil_append, List.cons_append] at N'); (try dsimp only)))
  k_with "k_ne" => (((try dsimp only); first
  | (with_reducible assumption)
  | (with_reducible exact Ne.symm (by assumption))
  | (refine' off1_ne ?nh ?nm; (case nh => with_reducible assumption); (case nm => k_mem))
  | (refine' off1_ne' ?nh ?nm; (case nh => with_reducible assumption); (case nm => k_mem))
  | (refine' off3_I ?nh ?nm; (case nh => with_reducible assumption); (case nm => k_mem))
  | (refine' off3_C ?nh ?nm; (case nh => with_reducible assumption); (case nm => k_mem))
  | (refine' off3_D ?nh ?nm; (case nh => with_reducible assumption); (case nm => k_mem))
  | (refine' off3_I' ?nh ?nm; (case nh => with_reducible assumption); (case nm => k_mem))
  | (refine' off3_C' ?nh ?nm; (case nh => with_reducible assumption); (case nm => k_mem))
  | (refine' off3_D' ?nh ?nm; (case nh => with_reducible assumption); (case nm => k_mem))
  | (refine' two_ne ?nh ?nm; (case nh => with_reducible assumption); (case nm => tb_start))
  | (refine' two_ne' ?nh ?nm; (case nh => with_reducible assumption); (case nm => tb_start))
  | (refine neN ?_; lia)))
  k_with "tb_start" => (first | (refine' Two.head ?th; (case th => k_mem)) | (refine' Two.tail ?tw; (case tw => tb_start)))
  k_with "call builtin:list.append" => ((k_here; (with_reducible show wpAny _ _ (PySem.call (Value.builtin _) [Value.ref _, _]) _ _ _); k_dflt (refine append_lit (by k_asm) (by k_asm) (by kl_lit) (by k_upd) (by kl_room) ?_); kl_rest))
  k_with "subscriptTail" => ((k_here; (with_reducible show wpAny _ _ (subscriptTail _ _ (Value.ref _) (Value.int _ _)) _ _ _); k_dflt (refine item_N (by k_asm) (by k_mem) (by decide) (by decide) rfl ?_ (by with_unfolding_all rfl))))
  k_with "subscriptTail Name Name ref int" => ((walk_at "subscriptTail"))
  k_with "subscriptTail Name Constant ref int" => ((walk_at "subscriptTail"))
  k_with "getItem ref int" => ((k_here; k_dflt (refine getItem_N (by k_asm) (by k_mem) (by decide) (by decide) rfl ?_)))
  k_with "getMethod ref" => ((k_here; (with_reducible show wpAny _ _ (getMethod (Value.ref _) (PySem.Str.ofString "read") _) _ _ _); k_dflt (refine kmu_own (by k_asm) (by k_asm) (by k_inst) (by k_is) (by k_is) ?_)))
  k_with "And" => (((with_reducible show FnAt _ _ ∧ _); refine ⟨FnAt.of (by k_asm) (by k_mem), ?_⟩; (try dsimp only [List.nil_append, List.cons_append])))
  k_with "k_mem" => (first | exact List.Mem.head _ | exact mem1 | exact mem2 | exact mem3 | exact mem4 | exact mem5 | exact mem6 | exact mem7 | (refine' mem8 ?_; k_mem))
  k_with "lcg_sub" => (first | exact sub_nil | (refine sub_cons (by k_mem) ?_; lcg_sub))
  k_with "kpt_turns" => (first | exact Take.head | exact tk1 | exact tk2 | exact tk3 | (refine' tk4 ?tk; (case tk => kpt_turns)))
  k_with "tb_rel" => (first | exact Pick.nil | (refine' Pick.cons ?pt ?pk; (case pt => kpt_turns); (case pk => tb_rel)))
  k_with "ktm_same2" => (first | exact True.intro | (refine off1_cons (by k_ne) ?_; ktm_same2))
  k_with "ktr_rel" => (first | exact True.intro | (refine And.intro (by ktm_same2) ?_; ktr_rel))
  k_with "ktr_room" => (first | decide | ((try simp only [depth_under_make, depth_under_kw, depth_in1, depth_deeper, depth_caller] at *); lia))
  k_with "truthy ref" => ((k_here; (with_reducible show wpAny _ _ (truthy (Value.ref _)) _ _ _); k_dflt (first
  | (refine truthy_cons (by k_asm) (by k_mem) (by with_reducible assumption) ?_)
  | (refine truthy_nil (by k_asm) (by k_mem) ?_))))
  k_with "call builtin:list.pop" => ((k_here; (with_reducible show wpAny _ _ (PySem.call (Value.builtin _) [Value.ref _, Value.int 0 _]) _ _ _); k_dflt (refine pop0_cons (by k_asm) (by k_asm) (by k_upd) (by with_reducible assumption) ?_); kl_rest))
  k_with "execs cons" => ((k_here; k_fold))
  exact True.intro

section
variable {w : World} {mean : ExcName → Option Value} {mg mb : PySem.Str → Option Value} {p : Program} {loose : List PySem.Str} {dp un : Nat} {gd : Option (List Code)} {env : Env} {outer : List Env}
    {A₀ : Around} {base h₀ : Heap} {L : Addr} {m : PySem.Str → Option Value} {news rest : List (Addr × Obj)} {s : Shared} {Q E : Value → Shared → Prop}
theorem order_at {n : Int} {tn : Tok} (hn : 0 ≤ n)
    (h : ∀ l e o0 o1 o2 o3 o4 t0 t1 t2 t3 t4 h' tk', [o0, o1, o2, o3, o4].Perm [0, 1, 2, 3, 4] → 0 ≤ o0 → o0 ≤ 4 → 0 ≤ o1 → o1 ≤ 4 → 0 ≤ o2 → o2 ≤ 4 → 0 ≤ o3 → o3 ≤ 4 → 0 ≤ o4 → o4 ≤ 4 →
      Fr h₀ L h' m → News h₀ L h' ((l, listOf #[.int o0 t0, .int o1 t1, .int o2 t2, .int o3 t3, .int o4 t4] e) :: news) → LCg.Off1 l news → Q (.ref l) { s with heap := h', toks := tk' })
    (B : Below A₀ base outer h₀ := by k_asm) (F : Fr h₀ L s.heap m := by k_asm) (X : (hd.heap_19 w.params).In h₀ := by k_asm) (N : News h₀ L s.heap news := by k_asm) (T : Top p loose mean mg mb h₀ := by k_asm)
    (hf : env.frame = some L := by exact rfl) (hke : env.scope.kind = .function := by exact rfl) (hd : dp + 1 < recursionLimit := by ktr_room) (hu : un + 8 * 1 < cLine := by ktr_room) :
    wpAny (model PySem.Challenge.rw_sw0028_01.row.prog w) (aro dp un gd (env :: outer)) (PySem.call (.ref 154) [.int n tn]) Q E s :=
  spec_at (order2_spec w n tn hn) B F X N T hf hke Pick.nil True.intro hd hu fun v nw h' tk' hp F' N' off => by
    obtain ⟨l, e, o0, o1, o2, o3, o4, t0, t1, t2, t3, t4, rfl, rfl, hP, ⟨a0, b0⟩, ⟨a1, b1⟩, ⟨a2, b2⟩, ⟨a3, b3⟩, ⟨a4, b4⟩⟩ := hp
    exact h _ _ _ _ _ _ _ _ _ _ _ _ h' tk' hP a0 b0 a1 b1 a2 b2 a3 b3 a4 b4 F' N' (off _ (.head _))
theorem lexer_at {sl : Addr} {vs : List Value} {n : Nat}
    (h : ∀ x dx st dst f c' cell pb k1 k2 k3 k4 j1 j2 j3 j4 j5 tw jl jw tl jln jws jpb name qual P Bd Sc cl pm ctv oc ocell fv tq h' tk',
      Fr h₀ L h' m → News h₀ L h' ((168, tabObj #[rawInt 139, rawInt 18, .ref c']) :: (pb, listOf #[] 0) :: (x, instObj 66 dx) :: (dx, lexDict w k1 k2 k3 k4 (.int 1 tl) (.ref st) (.str (PySem.Str.ofString "\n\t\r ") tw) (.ref pb)) :: (st, instObj 66 dst) ::
        (dst, strDict w j1 j2 j3 j4 j5 (.int jln jl) .none (.str jws jw) jpb (.ref f)) :: (f, kla_obj name qual P Bd Sc cl pm c' ctv) :: (c', oc) :: (cell, ocell) :: (sl, listOf vs.toArray n) :: rest) →
      Apart [168, x, dx, st, dst, f, c', cell, sl, pb] → Lam w f c' cell sl name qual P Bd Sc cl pm ctv oc ocell → ocell.data = .cell (some (.ref sl)) → oc.data = .fields fv → fv[1]? = some (.str (PySem.Str.ofString "_law_lexer.<locals>.<lambda>") tq) →
      (∀ q ∈ [(168, tabObj #[rawInt 139, rawInt 18, .ref c']), (pb, listOf #[] 0), (x, instObj 66 dx), (dx, lexDict w k1 k2 k3 k4 (.int 1 tl) (.ref st) (.str (PySem.Str.ofString "\n\t\r ") tw) (.ref pb)), (st, instObj 66 dst),
        (dst, strDict w j1 j2 j3 j4 j5 (.int jln jl) .none (.str jws jw) jpb (.ref f)), (f, kla_obj name qual P Bd Sc cl pm c' ctv), (c', oc), (cell, ocell), (sl, listOf vs.toArray n)], LCg.Off1 (Prod.fst q) rest) →
      LCg.Off1 168 rest → LCg.Off1 pb rest → LCg.Off1 x rest → LCg.Off1 dx rest → LCg.Off1 st rest → LCg.Off1 dst rest → LCg.Off1 f rest → LCg.Off1 c' rest → LCg.Off1 cell rest → LCg.Off1 sl rest →
      Q (.ref x) { s with heap := h', toks := tk' })
    (B : Below A₀ base outer h₀ := by k_asm) (F : Fr h₀ L s.heap m := by k_asm) (X : (hd.heap_19 w.params).In h₀ := by k_asm) (N : News h₀ L s.heap news := by k_asm) (T : Top p loose mean mg mb h₀ := by k_asm)
    (hf : env.frame = some L := by exact rfl) (hke : env.scope.kind = .function := by exact rfl)
    (hpick : Pick [(sl, listOf vs.toArray n), (168, tabObj #[])] news rest := by tb_rel) (hap : AllOff [(sl, listOf vs.toArray n), (168, tabObj #[])] rest := by ktr_rel) (hs : @Ne Nat sl 168 := by k_ne)
    (hd : dp + 3 < recursionLimit := by ktr_room) (hu : un + 8 * 3 < cLine := by ktr_room) :
    wpAny (model PySem.Challenge.rw_sw0028_01.row.prog w) (aro dp un gd (env :: outer)) (PySem.call (.ref 173) [.ref sl]) Q E s :=
  spec_at (lexer_spec w sl vs n hs (codehd172 w)) B F X N T hf hke hpick hap hd hu fun v nw h' tk' hp F' N' off => by
    obtain ⟨x, dx, st, dst, f, c', cell, pb, k1, k2, k3, k4, j1, j2, j3, j4, j5, tw, jl, jw, tl, jln, jws, jpb, name, qual, P, Bd, Sc, cl, pm, ctv, oc, ocell, fv, tq, ap, lam, od, ocd, ofv⟩ := hp
    simp only [lexL] at off
    have off' := off
    simp only [List.forall_mem_cons, List.not_mem_nil, false_implies, implies_true, and_true] at off
    obtain ⟨z0, z1, z2, z3, z4, z5, z6, z7, z8, z9⟩ := off
    exact h _ _ _ _ _ _ _ _ _ _ _ _ _ _ _ _ _ _ _ _ _ _ _ _ _ _ _ _ _ _ _ _ _ _ _ _ h' tk' F' N' ap lam od ocd ofv off' z0 z1 z2 z3 z4 z5 z6 z7 z8 z9
theorem lexer2_at {sl c' : Addr} {oc : Obj} {vs : List Value} {n : Nat} {fv : Array Value} {tq : Tok}
    (h : ∀ x dx st dst f cell pb k1 k2 k3 k4 j1 j2 j3 j4 j5 tw jl jw tl jln jws jpb name qual P Bd Sc cl pm ctv ocell h' tk',
      Fr h₀ L h' m → News h₀ L h' ((168, tabObj #[rawInt 139, rawInt 18, .ref c']) :: (x, instObj 66 dx) :: (dx, lexDict w k1 k2 k3 k4 (.int 1 tl) (.ref st) (.str (PySem.Str.ofString "\n\t\r ") tw) (.ref pb)) :: (st, instObj 66 dst) ::
        (dst, strDict w j1 j2 j3 j4 j5 (.int jln jl) .none (.str jws jw) jpb (.ref f)) :: (f, kla_obj name qual P Bd Sc cl pm c' ctv) :: (c', oc) :: (cell, ocell) :: (sl, listOf vs.toArray n) :: (pb, listOf #[] 0) :: rest) →
      ApB [168, x, dx, st, dst, f, c', cell, sl, pb] → Lam w f c' cell sl name qual P Bd Sc cl pm ctv oc ocell → ocell.data = .cell (some (.ref sl)) →
      (∀ q ∈ [(168, tabObj #[rawInt 139, rawInt 18, .ref c']), (x, instObj 66 dx), (dx, lexDict w k1 k2 k3 k4 (.int 1 tl) (.ref st) (.str (PySem.Str.ofString "\n\t\r ") tw) (.ref pb)), (st, instObj 66 dst),
        (dst, strDict w j1 j2 j3 j4 j5 (.int jln jl) .none (.str jws jw) jpb (.ref f)), (f, kla_obj name qual P Bd Sc cl pm c' ctv), (c', oc), (cell, ocell), (sl, listOf vs.toArray n), (pb, listOf #[] 0)], LCg.Off1 (Prod.fst q) rest) →
      LCg.Off1 168 rest → LCg.Off1 x rest → LCg.Off1 dx rest → LCg.Off1 st rest → LCg.Off1 dst rest → LCg.Off1 f rest → LCg.Off1 c' rest → LCg.Off1 cell rest → LCg.Off1 sl rest → LCg.Off1 pb rest →
      Q (.ref x) { s with heap := h', toks := tk' })
    (B : Below A₀ base outer h₀ := by k_asm) (F : Fr h₀ L s.heap m := by k_asm) (X : (hd.heap_19 w.params).In h₀ := by k_asm) (N : News h₀ L s.heap news := by k_asm) (T : Top p loose mean mg mb h₀ := by k_asm)
    (hf : env.frame = some L := by exact rfl) (hke : env.scope.kind = .function := by exact rfl)
    (hpick : Pick [(sl, listOf vs.toArray n), (168, tabObj #[rawInt 139, rawInt 18, .ref c']), (c', oc)] news rest := by tb_rel)
    (hap : AllOff [(sl, listOf vs.toArray n), (168, tabObj #[rawInt 139, rawInt 18, .ref c']), (c', oc)] rest := by ktr_rel)
    (hod : oc.data = .fields fv := by with_reducible assumption) (hof : fv[1]? = some (.str (PySem.Str.ofString "_law_lexer.<locals>.<lambda>") tq) := by with_reducible assumption)
    (hs : @Ne Nat sl 168 := by k_ne) (h1 : @Ne Nat sl c' := by k_ne) (h2 : @Ne Nat c' 168 := by k_ne)
    (hd : dp + 3 < recursionLimit := by ktr_room) (hu : un + 8 * 3 < cLine := by ktr_room) :
    wpAny (model PySem.Challenge.rw_sw0028_01.row.prog w) (aro dp un gd (env :: outer)) (PySem.call (.ref 173) [.ref sl]) Q E s :=
  spec_at (lexer2_spec w sl c' oc vs n fv tq hod hof hs h1 h2 (codehd172 w)) B F X N T hf hke hpick hap hd hu fun v nw h' tk' hp F' N' off => by
    obtain ⟨x, dx, st, dst, f, cell, pb, k1, k2, k3, k4, j1, j2, j3, j4, j5, tw, jl, jw, tl, jln, jws, jpb, name, qual, P, Bd, Sc, cl, pm, ctv, ocell, ap, lam, od⟩ := hp
    simp only [lexL, List.cons_append, List.nil_append] at off
    have off' := off
    simp only [List.forall_mem_cons, List.not_mem_nil, false_implies, implies_true, and_true] at off
    obtain ⟨z0, z1, z2, z3, z4, z5, z6, z7, z8, z9⟩ := off
    exact h _ _ _ _ _ _ _ _ _ _ _ _ _ _ _ _ _ _ _ _ _ _ _ _ _ _ _ _ _ _ _ _ h' tk' F' N' ⟨ap⟩ lam od off' z0 z1 z2 z3 z4 z5 z6 z7 z8 z9
end
theorem sg14 {v : List Value} {x look y : Int} (h : Sg v (wrt (spell x look) y)) : v.length ≤ 14 := by rw [h.len]; exact wrt_14 x look y
theorem white_of {r : List Value} (h : Sg r [10, 32]) : White r ∧ r.length = 2 ∧ ∀ ln, lnAfter ln r = ln + 1 := by
  obtain ⟨t, r1, rfl, h1⟩ := Sg.cons_inv h
  obtain ⟨t', r2, rfl, h2⟩ := Sg.cons_inv h1
  obtain rfl := Sg.nil_inv h2
  refine ⟨?_, rfl, fun ln => ?_⟩
  · rw [← lit_nl, ← lit_sp]; exact .nl (.sp .nil)
  · have e := lnAfter_tx (ln := ln) (es := [10, 32]) (.cons (tx [10]) t (.cons (tx [32]) t' .nil))
    rw [e]
    rfl
section
variable {prog : Program} {w : World} {A : Around} {E : Value → Shared → Prop} {s : Shared} {h₀ : Heap} {L : Addr} {m : PySem.Str → Option Value} {news : List (Addr × Obj)} {t : Tok} {Q : Value → Shared → Prop} {x0 x1 x2 x3 x4 l y0 y1 y2 y3 y4 : Int}
/-- list(text) of the five written words, a line end and a blank: its signs by words -/
theorem list_five
    (h : ∀ D h' tk va vb vc vd ve r n, Sg va (wrt (spell x0 l) y0) → Sg vb (wrt (spell x1 l) y1) → Sg vc (wrt (spell x2 l) y2) → Sg vd (wrt (spell x3 l) y3) → Sg ve (wrt (spell x4 l) y4) → Sg r [10, 32] →
      va.length ≤ 14 → vb.length ≤ 14 → vc.length ≤ 14 → vd.length ≤ 14 → ve.length ≤ 14 → (White r ∧ r.length = 2 ∧ ∀ ln, lnAfter ln r = ln + 1) → r.length = 2 → Fr h₀ L h' m → News h₀ L h' ((D, listOf (va ++ (vb ++ (vc ++ (vd ++ (ve ++ r))))).toArray n) :: news) → LCg.Off1 D news →
      Q (.ref D) { s with heap := h', toks := tk })
    (F : Fr h₀ L s.heap m := by k_asm) (N : News h₀ L s.heap news := by k_asm) (hh : A.handled = none := by exact rfl) :
    wpAny (model prog w) A (PySem.call (.type "list") [.str (tx ([wrt (spell x0 l) y0, wrt (spell x1 l) y1, wrt (spell x2 l) y2, wrt (spell x3 l) y3, wrt (spell x4 l) y4].flatten ++ [10, 32])) t]) Q E s := by
  refine list_tx hh F N (by rw [List.length_append]; exact Nat.le_trans (Nat.add_le_add_right (five_len (wrt_14 _ _ _) (wrt_14 _ _ _) (wrt_14 _ _ _) (wrt_14 _ _ _) (wrt_14 _ _ _)) 2) (by decide)) fun D h' tk vs n hS F' N' l1 => ?_
  simp only [List.flatten_cons, List.flatten_nil, List.append_nil, List.append_assoc] at hS
  obtain ⟨va, ra, rfl, Sa, hS1⟩ := Sg.append_inv hS
  obtain ⟨vb, rb, rfl, Sb, hS2⟩ := Sg.append_inv hS1
  obtain ⟨vc, rc, rfl, Sc, hS3⟩ := Sg.append_inv hS2
  obtain ⟨vd, rd, rfl, Sd, hS4⟩ := Sg.append_inv hS3
  obtain ⟨ve, r, rfl, Se, hS5⟩ := Sg.append_inv hS4
  exact h D h' tk va vb vc vd ve r n Sa Sb Sc Sd Se hS5 (sg14 Sa) (sg14 Sb) (sg14 Sc) (sg14 Sd) (sg14 Se) (white_of hS5) (white_of hS5).2.1 F' N' (off1_of fun r hr => Nat.ne_of_lt (l1 r hr))
/-- the five written words, one behind the other -/
theorem join_five {D : Addr} {n : Nat} {s0 s1 s2 s3 s4 t : Tok}
    (h : ∀ t' k, Q (.str (tx [wrt (spell x0 l) y0, wrt (spell x1 l) y1, wrt (spell x2 l) y2, wrt (spell x3 l) y3, wrt (spell x4 l) y4].flatten) t') { s with toks := k })
    (N : News h₀ L s.heap news := by k_asm)
    (hm : (D, listOf #[.str (tx (wrt (spell x0 l) y0)) s0, .str (tx (wrt (spell x1 l) y1)) s1, .str (tx (wrt (spell x2 l) y2)) s2, .str (tx (wrt (spell x3 l) y3)) s3, .str (tx (wrt (spell x4 l) y4)) s4] n) ∈ news := by k_mem) :
    wpAny (model prog w) A (PySem.call (.builtin "str.join") [.str (PySem.Str.ofString "") t, .ref D]) Q E s :=
  join_strs (ls := [_, _, _, _, _]) N hm strs5 (Nat.le_trans (five_len (wrt_14 _ _ _) (wrt_14 _ _ _) (wrt_14 _ _ _) (wrt_14 _ _ _) (wrt_14 _ _ _)) (by decide)) h
theorem end_five {t u : Tok}
    (h : ∀ t' k, Q (.str (tx ([wrt (spell x0 l) y0, wrt (spell x1 l) y1, wrt (spell x2 l) y2, wrt (spell x3 l) y3, wrt (spell x4 l) y4].flatten ++ [10, 32])) t') { s with toks := k }) :
    wpAny (model prog w) A (binaryOp .Add (.str (tx [wrt (spell x0 l) y0, wrt (spell x1 l) y1, wrt (spell x2 l) y2, wrt (spell x3 l) y3, wrt (spell x4 l) y4].flatten) t) (.str (PySem.Str.ofString "\n ") u)) Q E s :=
  add_end (Nat.le_trans (five_len (wrt_14 _ _ _) (wrt_14 _ _ _) (wrt_14 _ _ _) (wrt_14 _ _ _) (wrt_14 _ _ _)) (by decide)) h
end

end

section
theorem apart_append : ∀ {l r : List Addr}, Apart l → Apart r → (∀ a ∈ l, ∀ b ∈ r, @Ne Nat b a) → Apart (l ++ r)
  | [], _, _, hr, _ => hr
  | a :: l, r, hl, hr, h => ⟨fun b hb => (List.mem_append.mp hb).elim (hl.1 b) (h a (.head _) b), apart_append hl.2 hr fun a ha => h a (.tail _ ha)⟩
theorem ap_r {x2 dx2 st2 dst2 f2 c' cell2 sl2 pb2 lm : Addr} (h : ApB [168, x2, dx2, st2, dst2, f2, c', cell2, sl2, pb2]) (l1 : @Ne Nat lm x2) (l2 : @Ne Nat lm dx2) (l3 : @Ne Nat lm pb2) : Apart [x2, dx2, pb2, lm] := by
  obtain ⟨⟨_, h1, h2, _⟩⟩ := h
  refine ⟨?_, ?_, ?_, ?_, True.intro⟩
  · intro b hb
    simp only [List.mem_cons, List.not_mem_nil, or_false] at hb
    rcases hb with rfl | rfl | rfl
    · exact h1 _ (by simp)
    · exact h1 _ (by simp)
    · exact l1
  · intro b hb
    simp only [List.mem_cons, List.not_mem_nil, or_false] at hb
    rcases hb with rfl | rfl
    · exact h2 _ (by simp)
    · exact l2
  · intro b hb
    simp only [List.mem_cons, List.not_mem_nil, or_false] at hb
    subst hb
    exact l3
  · intro b hb; cases hb
theorem cnt_count (es : List Nat) : Txt.count (tx es) (PySem.Str.ofString "\n") = ((es.count 10 : Nat) : Int) := by
  rw [lit_nl, show tx [10] = ⟨#[10]⟩ from rfl, count_cnt]
  have e : ∀ l : List Nat, PyProof.Rows.cnt 10 l = ((l.count 10 : Nat) : Int) := by
    intro l
    induction l with
    | nil => rfl
    | cons a l ih =>
      rw [cnt_cons, ih, List.count_cons]
      by_cases h : a = 10
      · subst h; simp; lia
      · rw [if_neg h, show (a == 10) = false from beq_eq_false_iff_ne.mpr h]; simp
  exact e _
theorem count_tx {prog : Program} {w : World} {A : Around} {E : Value → Shared → Prop} {s : Shared} {es : List Nat} {t u : Tok} {Q : Value → Shared → Prop} (h : Q (.int ((es.count 10 : Nat) : Int) s.toks) { s with toks := s.toks + 1 }) :
    wpAny (model prog w) A (PySem.call (.builtin "str.count") [.str (tx es) t, .str (PySem.Str.ofString "\n") u]) Q E s :=
  SC.count (by rw [cnt_count]; exact h)
theorem apart_tail {a : Addr} {l : List Addr} (h : Apart (a :: l)) : Apart l := h.2
theorem ap_c {x2 dx2 st2 dst2 f2 c' cell2 sl2 pb2 : Addr} (h : ApB [168, x2, dx2, st2, dst2, f2, c', cell2, sl2, pb2]) : @Ne Nat x2 c' ∧ @Ne Nat dx2 c' ∧ @Ne Nat pb2 c' := by
  obtain ⟨⟨_, h1, h2, _, _, _, h6, _⟩⟩ := h
  exact ⟨(h1 _ (by simp)).symm, (h2 _ (by simp)).symm, h6 _ (by simp)⟩
theorem ap_c1 {x2 dx2 st2 dst2 f2 c' cell2 sl2 pb2 : Addr} (h : ApB [168, x2, dx2, st2, dst2, f2, c', cell2, sl2, pb2]) : @Ne Nat x2 c' := (ap_c h).1
theorem ap_c2 {x2 dx2 st2 dst2 f2 c' cell2 sl2 pb2 : Addr} (h : ApB [168, x2, dx2, st2, dst2, f2, c', cell2, sl2, pb2]) : @Ne Nat dx2 c' := (ap_c h).2.1
theorem ap_c3 {x2 dx2 st2 dst2 f2 c' cell2 sl2 pb2 : Addr} (h : ApB [168, x2, dx2, st2, dst2, f2, c', cell2, sl2, pb2]) : @Ne Nat pb2 c' := (ap_c h).2.2
theorem len900 {a b c d e r : List Value} (ha : a.length ≤ 14) (hb : b.length ≤ 14) (hc : c.length ≤ 14) (hd : d.length ≤ 14) (he : e.length ≤ 14) (hr : r.length = 2) : (a ++ (b ++ (c ++ (d ++ (e ++ r))))).length ≤ 900 := by
  simp only [List.length_append]; lia
theorem two_neB {a b : Addr} {l : List Addr} (h : ApB l) (t : Two a b l) : @Ne Nat b a := by obtain ⟨h⟩ := h; exact two_ne h t
theorem two_neB' {a b : Addr} {l : List Addr} (h : ApB l) (t : Two a b l) : @Ne Nat a b := (two_neB h t).symm

end

section
section
variable {prog : Program} {w : World} {A : Around} {h₀ : Heap} {L : Addr} {m : PySem.Str → Option Value} {env : Env} {ct elt : PySem.Expr} {x : PySem.Str} {scope : Scope} {cl : List (PySem.Str × Addr)} {s : Shared} {Fin : List Value → List (Addr × Obj) → Prop} {news : List (Addr × Obj)}
/-- how many of the first places the test lets through -/
noncomputable def cntB (tst : Nat → Bool) : Nat → Nat
  | 0 => 0
  | k + 1 => cntB tst k + (if tst k = true then 1 else 0)
/-- a comprehension over a range with a test: only how many it keeps -/
theorem rest_count {n : Nat} (tst : Nat → Bool)
    (turn : ∀ (i : Nat) t I oI C oC D m₂ ys h tk (E' : Value → Shared → Prop) (Q : Bool → Shared → Prop), i < n → LCg.NsObj oC m₂ → m₂ x = some (.int ((i : Nat) : Int) t) → Fr h₀ L h m → News h₀ L h ((I, oI) :: (C, oC) :: (D, LCg.lst ys) :: news) → LCg.Off3 I C D news → ((@Ne Nat I C) ∧ (@Ne Nat I D) ∧ (@Ne Nat C D)) →
      (∀ tk', Q (tst i) { s with heap := h, toks := tk' }) → wpAny (model prog w) A (isTrue ct (compEnvC scope cl C env) (eval ct (compEnvC scope cl C env))) Q E' { s with heap := h, toks := tk })
    (item : ∀ (i : Nat) t I oI C oC D m₂ ys h tk (E' : Value → Shared → Prop) (Q : Value → Shared → Prop), i < n → LCg.NsObj oC m₂ → m₂ x = some (.int ((i : Nat) : Int) t) → Fr h₀ L h m → News h₀ L h ((I, oI) :: (C, oC) :: (D, LCg.lst ys) :: news) → LCg.Off3 I C D news → ((@Ne Nat I C) ∧ (@Ne Nat I D) ∧ (@Ne Nat C D)) →
      (∀ v tk', Q v { s with heap := h, toks := tk' }) → wpAny (model prog w) A (eval elt (compEnvC scope cl C env)) Q E' { s with heap := h, toks := tk })
    (fin : ∀ ys : List Value, ys.length = cntB tst n → Fin ys news) :
    LCt.CompRestT prog w A h₀ L m env ct elt x scope cl s (fun _ => True) (fun i v => ∃ t, v = .int (0 + (i : Int)) t) Fin n 0 [] news := by
  have key : ∀ (j i : Nat) (ys : List Value), i + j = n → ys.length = cntB tst i → LCt.CompRestT prog w A h₀ L m env ct elt x scope cl s (fun _ => True) (fun i v => ∃ t, v = .int (0 + (i : Int)) t) Fin j i ys news := by
    intro j
    induction j with
    | zero =>
      intro i ys hi hy
      obtain rfl : i = n := by lia
      exact LCt.CompRestT.zero (fin ys hy)
    | succ j ih =>
      intro i ys hi hy
      refine LCt.CompRestT.succ fun v I oI C oC D m₂ h tk E' hv hC hx F N off ne => ?_
      obtain ⟨t, rfl⟩ := hv
      rw [Int.zero_add] at hx
      refine turn i t I oI C oC D m₂ ys h tk E' _ (by lia) hC hx F N off ne fun tk' => ?_
      have hc : cntB tst (i + 1) = cntB tst i + (if tst i = true then 1 else 0) := rfl
      cases hb : tst i with
      | true =>
        rw [hb] at hc
        rw [if_pos rfl]
        refine item i t I oI C oC D m₂ ys h tk' E' _ (by lia) hC hx F N off ne fun v tk2 => ?_
        exact LCg.CompEnd.intro (s₁ := { s with heap := h, toks := tk }) F N news (fun _ hp => hp) off trivial (ih (i + 1) _ (by lia) (by rw [List.length_append, hy, hc]; rfl))
      | false =>
        rw [hb] at hc
        rw [if_neg Bool.false_ne_true]
        exact LCg.CompEnd.intro (s₁ := { s with heap := h, toks := tk }) F N news (fun _ hp => hp) off trivial (ih (i + 1) _ (by lia) (by rw [hy, hc]; rfl))
  exact key n 0 [] (by lia) rfl
/-- a comprehension whose test lets none through -/
theorem rest_none {n : Nat} {S : List (Addr × Obj) → Prop} {P : Nat → Value → Prop} (hS : S news)
    (turn : ∀ (i : Nat) v I oI C oC D m₂ ys h tk (E' : Value → Shared → Prop) (Q : Bool → Shared → Prop), P i v → LCg.NsObj oC m₂ → m₂ x = some v → Fr h₀ L h m → News h₀ L h ((I, oI) :: (C, oC) :: (D, LCg.lst ys) :: news) → LCg.Off3 I C D news → ((@Ne Nat I C) ∧ (@Ne Nat I D) ∧ (@Ne Nat C D)) →
      (∀ tk', Q false { s with heap := h, toks := tk' }) → wpAny (model prog w) A (isTrue ct (compEnvC scope cl C env) (eval ct (compEnvC scope cl C env))) Q E' { s with heap := h, toks := tk })
    (fin : Fin [] news) : LCt.CompRestT prog w A h₀ L m env ct elt x scope cl s S P Fin n 0 [] news := by
  have key : ∀ (j i : Nat), LCt.CompRestT prog w A h₀ L m env ct elt x scope cl s S P Fin j i [] news := by
    intro j
    induction j with
    | zero => exact fun _ => LCt.CompRestT.zero fin
    | succ j ih =>
      intro i
      refine LCt.CompRestT.succ fun v I oI C oC D m₂ h tk E' hv hC hx F N off ne => ?_
      refine turn i v I oI C oC D m₂ [] h tk E' _ hv hC hx F N off ne fun tk' => ?_
      rw [if_neg Bool.false_ne_true]
      exact LCg.CompEnd.intro (s₁ := { s with heap := h, toks := tk }) F N news (fun _ hp => hp) off hS (ih (i + 1))
  exact key n 0
end
theorem price_law (look : Int) {x y : Nat} (hx : x < 32) (hy : y < 32) : cntB (fun i => at' (spell (x : Int) look) i != at' (spell (y : Int) look) i) 6 = pop (x ^^^ y) := by
  obtain ⟨s, st, p, hs, hp, hst, hw⟩ := spell_wd look
  rw [hw x, hw y]
  have key : ∀ k, k ≤ 6 → ((cntB (fun i => at' (wd x s st p) i != at' (wd y s st p) i) k : Nat) : Int) = psum (wd x s st p) (wd y s st p) k := by
    intro k
    induction k with
    | zero => intro _; rfl
    | succ k ih =>
      intro hk
      have h1 := ih (by lia)
      have h2 := ct_wd hs hp hst x y (i := k) (j := k) (by lia) (by lia)
      rw [if_pos rfl] at h2
      show ((cntB _ k + (if _ then 1 else 0) : Nat) : Int) = psum _ _ k + ct _ _ k k
      rw [h2, ← h1]
      have k6 : k < 6 := by lia
      simp only [at_wd (x := x) (s := s) (st := st) hp k6, at_wd (x := y) (s := s) (st := st) hp k6]
      by_cases e : sgn y s st p k = sgn x s st p k
      · rw [if_pos e, e]; simp
      · rw [if_neg e, show (sgn x s st p k != sgn y s st p k) = true from bne_iff_ne.mpr fun q => e q.symm]; simp
  have h6 := key 6 (Nat.le_refl 6)
  rw [wd_psum hs hp hst hx hy] at h6
  lia
theorem spell_low (x look : Int) : ∀ c ∈ spell x look, c < 0x110000 := by
  intro c hc
  unfold spell spellL at hc
  obtain ⟨l, hl, hc⟩ := List.mem_flatten.mp hc
  have lo : ∀ i : Int, (lettr i = 65 ∨ lettr i = 97) := fun i => by unfold lettr; split <;> simp
  have a1 := Int.fmod_lt_of_pos look (show (0:Int) < 22 by decide)
  have key : ∀ (i : Int) (k : Int), k < 5 → ∀ c, c ∈ [(lettr i + look.fmod 22 + k).toNat] → c < 0x110000 := by
    intro i k hk c hc
    simp only [List.mem_cons, List.not_mem_nil, or_false] at hc
    subst hc
    rcases lo i with h | h <;> rw [h] <;> lia
  have kl : ∀ l ∈ letters x look, ∀ c ∈ l, c < 0x110000 := by
    intro l hl
    simp only [letters, List.mem_cons, List.not_mem_nil, or_false] at hl
    rcases hl with rfl | rfl | rfl | rfl | rfl
    · exact key _ _ (by decide)
    · exact key _ _ (by decide)
    · exact key _ _ (by decide)
    · exact key _ _ (by decide)
    · exact key _ _ (by decide)
  rcases List.mem_append.mp hl with h | h
  · exact kl _ (List.mem_of_mem_take h) _ hc
  · rcases List.mem_cons.mp h with rfl | h
    · simp only [List.mem_cons, List.not_mem_nil, or_false] at hc
      subst hc
      unfold strange
      generalize ((look.fdiv 22).fmod 6).toNat = n
      rcases n with _ | _ | _ | _ | _ | _ | n <;> simp
    · exact kl _ (List.mem_of_mem_drop h) _ hc
theorem spell_ok (x look : Int) : PyData.strOk (tx (spell x look)) = true := by
  unfold PyData.strOk tx
  rw [Array.all_eq_true']
  intro c hc
  exact decide_eq_true (spell_low x look c (by simpa using hc))
theorem canLayAll0_strs : ∀ cs : List PySem.Str, (∀ c ∈ cs, PyData.strOk c = true) → PyData.canLayAll0 (cs.map PyData.str) = true
  | [], _ => by simp [PyData.canLayAll0]
  | c :: r, h => by simp [PyData.canLayAll0, PyData.canLay0, canLayAll0_strs r fun c hc => h c (.tail _ hc), h c (.head _)]
theorem depthAll_strs : ∀ cs : List PySem.Str, PyData.depthAll (cs.map PyData.str) ≤ 1
  | [] => by simp [PyData.depthAll]
  | c :: r => by
    have := depthAll_strs r
    simp only [List.map_cons, PyData.depthAll, PyData.depth]
    lia
theorem shaped_strs (cs : List PySem.Str) (ok : ∀ c ∈ cs, PyData.strOk c = true) : SeqAt.shaped (.list (cs.map PyData.str)) = true := by
  have h1 := depthAll_strs cs
  have h2 : PyData.depth (.list (cs.map PyData.str)) ≤ 64 := by simp only [PyData.depth]; lia
  show (PyData.canLay0 (.list (cs.map PyData.str)) && decide (PyData.depth (.list (cs.map PyData.str)) ≤ 64)) = true
  rw [Bool.and_eq_true]
  exact ⟨by simp only [PyData.canLay0]; exact canLayAll0_strs cs ok, decide_eq_true h2⟩
theorem readsAll_strs {h : Heap} : ∀ {vs : List Value} {cs : List PySem.Str}, StrsAre vs cs → ReadsAll h vs (cs.map PyData.str) []
  | _, _, .nil => .nil
  | _, _, .cons k t r => by
    have := ReadsAll.cons (Reads.str (h := h) k t) (readsAll_strs (h := h) r)
    simpa using this
theorem reads_strs {h : Heap} {a : Addr} {vs : List Value} {cs : List PySem.Str} (hl : h.IsList a vs.toArray) (hi : StrsAre vs cs) : Reads h (.ref a) (.list (cs.map PyData.str)) [a] := by
  obtain ⟨o, ho, hc, n, hd⟩ := hl
  exact Reads.list ho hc hd (by simpa using readsAll_strs hi)
/-- two lists of the same texts -/
theorem ne_strs {prog : Program} {w : World} {A : Around} {E : Value → Shared → Prop} {s : Shared} {a b : Addr} {vs us : List Value} {cs : List PySem.Str} {Q : Value → Shared → Prop} (hl : s.heap.IsList a vs.toArray) (hl' : s.heap.IsList b us.toArray) (hi : StrsAre vs cs) (hi' : StrsAre us cs) (ok : ∀ c ∈ cs, PyData.strOk c = true) (hu : A.units + 64 < cLine)
    (h : Q (.bool false) s) : wpAny (model prog w) A (compareOp .NotEq (.ref a) (.ref b)) Q E s :=
  ne_dataH (reads_strs hl hi) (reads_strs hl' hi') (shaped_strs cs ok) (shaped_strs cs ok) hu (by
    rw [show PyData.eqv (.list (cs.map PyData.str)) (.list (cs.map PyData.str)) = true from SeqAt.eqv_refl _ (by simp only [PyData.canLay0]; exact canLayAll0_strs cs ok)]; exact h)
theorem apart_tailB {a : Addr} {l : List Addr} (h : ApB (a :: l)) : Apart l := by obtain ⟨h⟩ := h; exact h.2
theorem ok5 {a b c d e look : Int} : ∀ z ∈ [spell a look, spell b look, spell c look, spell d look, spell e look].map tx, PyData.strOk z = true := by
  intro z hz
  simp only [List.map_cons, List.map_nil, List.mem_cons, List.not_mem_nil, or_false] at hz
  rcases hz with rfl | rfl | rfl | rfl | rfl <;> exact spell_ok _ _
theorem two7 {vs : List Value} (h : vs.length = 2) : List.length vs + 7 ≤ 1000 := by lia
/-- addresses that differ, each from each: kept as one fact -/
structure ApL (l : List Addr) : Prop where
  h : Apart l
structure ApM (l : List Addr) : Prop where
  h : Apart l
structure ApN (l : List Addr) : Prop where
  h : Apart l
theorem two_neN {a b : Addr} {l : List Addr} (h : ApN l) (t : Two a b l) : @Ne Nat b a := two_ne h.h t
theorem two_neN' {a b : Addr} {l : List Addr} (h : ApN l) (t : Two a b l) : @Ne Nat a b := (two_ne h.h t).symm
theorem two_neL {a b : Addr} {l : List Addr} (h : ApL l) (t : Two a b l) : @Ne Nat b a := two_ne h.h t
theorem two_neL' {a b : Addr} {l : List Addr} (h : ApL l) (t : Two a b l) : @Ne Nat a b := (two_ne h.h t).symm
theorem keep_on {h₀ h : Heap} {L : Addr} {news rest : List (Addr × Obj)} {G : Prop}
    {w : World} {x dx st dst f c' cell sl pb : Addr} {k1 k2 k3 k4 j1 j2 j3 j4 j5 tw jl jw tl : Tok} {jln : Int} {jws : PySem.Str} {jpb : Value}
    {name qual : PySem.Str} {P : Arguments} {Bd : PySem.Expr} {Sc : Scope} {cl : List (PySem.Str × Addr)} {pm ctv : Value} {oc ocell : Obj} {ln : Int} {signs : List Value} {n e : Nat}
    {x2 dx2 st2 dst2 f2 cell2 sl2 pb2 lm dr od : Addr} {b1 b2 b3 b4 b5 b6 b7 b8 : Obj} {a0 a1 a2 a3 o0 o1 o2 o3 o4 p0 p1 p2 p3 p4 look : Int} {u0 u1 u2 u3 v0 v1 v2 v3 v4 r0 r1 r2 r3 r4 : Tok} {n1 n2 n3 : Nat} {Z : List Int}
    (N : News h₀ L h news) (h1 : Apart [168, x, dx, st, dst, f, c', cell, sl, pb]) (h2 : ApB [168, x2, dx2, st2, dst2, f2, c', cell2, sl2, pb2]) (hP : [o0, o1, o2, o3, o4].Perm Z)
    (pk : Pick [(pb, listOf #[] e), (x, instObj 66 dx), (dx, lexDict w k1 k2 k3 k4 (.int ln tl) (.ref st) (.str (PySem.Str.ofString "\n\t\r ") tw) (.ref pb)), (st, instObj 66 dst), (dst, strDict w j1 j2 j3 j4 j5 (.int jln jl) .none (.str jws jw) jpb (.ref f)),
        (f, kla_obj name qual P Bd Sc cl pm c' ctv), (c', oc), (cell, ocell), (sl, listOf signs.toArray n),
        (x2, b1), (dx2, b2), (st2, b3), (dst2, b4), (f2, b5), (cell2, b6), (sl2, b7), (pb2, b8), (lm, listOf #[.int a0 u0, .int a1 u1, .int a2 u2, .int a3 u3] n1),
        (dr, listOf #[.str (tx (spell p0 look)) v0, .str (tx (spell p1 look)) v1, .str (tx (spell p2 look)) v2, .str (tx (spell p3 look)) v3, .str (tx (spell p4 look)) v4] n2),
        (od, listOf #[.int o0 r0, .int o1 r1, .int o2 r2, .int o3 r3, .int o4 r4] n3)] news rest)
    (na : Apart [dr, od, lm, x2, dx2, st2, dst2, f2, cell2, sl2, pb2, x, dx, st, dst, f, c', cell, sl, pb])
    (hG : News h₀ L h [(pb, listOf #[] e), (x, instObj 66 dx), (dx, lexDict w k1 k2 k3 k4 (.int ln tl) (.ref st) (.str (PySem.Str.ofString "\n\t\r ") tw) (.ref pb)), (st, instObj 66 dst), (dst, strDict w j1 j2 j3 j4 j5 (.int jln jl) .none (.str jws jw) jpb (.ref f)),
        (f, kla_obj name qual P Bd Sc cl pm c' ctv), (c', oc), (cell, ocell), (sl, listOf signs.toArray n),
        (x2, b1), (dx2, b2), (st2, b3), (dst2, b4), (f2, b5), (cell2, b6), (sl2, b7), (pb2, b8), (lm, listOf #[.int a0 u0, .int a1 u1, .int a2 u2, .int a3 u3] n1),
        (dr, listOf #[.str (tx (spell p0 look)) v0, .str (tx (spell p1 look)) v1, .str (tx (spell p2 look)) v2, .str (tx (spell p3 look)) v3, .str (tx (spell p4 look)) v4] n2),
        (od, listOf #[.int o0 r0, .int o1 r1, .int o2 r2, .int o3 r3, .int o4 r4] n3)] → ApL [dr, od, lm, x2, dx2, st2, dst2, f2, cell2, sl2, pb2, x, dx, st, dst, f, c', cell, sl, pb] → ApM [x, dx, st, dst, f, c', cell, sl, pb] → ApM [x2, dx2, st2, dst2, f2, c', cell2, sl2, pb2] → G) : G :=
  hG (fun q hq => N q (pk.sub.1 q hq)) ⟨na⟩ ⟨h1.2⟩ ⟨h2.h.2⟩
structure FBox (h₀ : Heap) (L : Addr) (h : Heap) (m : PySem.Str → Option Value) : Prop where
  h : Fr h₀ L h m
structure NBox (h₀ : Heap) (L : Addr) (h : Heap) (news : List (Addr × Obj)) : Prop where
  h : News h₀ L h news
theorem ap_rL {x2 dx2 st2 dst2 f2 c' cell2 sl2 pb2 lm : Addr} (h : ApM [x2, dx2, st2, dst2, f2, c', cell2, sl2, pb2]) (l1 : @Ne Nat lm x2) (l2 : @Ne Nat lm dx2) (l3 : @Ne Nat lm pb2) : Apart [x2, dx2, pb2, lm] := by
  obtain ⟨⟨h1, h2, _⟩⟩ := h
  refine ⟨?_, ?_, ?_, ?_, True.intro⟩
  · intro b hb
    simp only [List.mem_cons, List.not_mem_nil, or_false] at hb
    rcases hb with rfl | rfl | rfl
    · exact h1 _ (by simp)
    · exact h1 _ (by simp)
    · exact l1
  · intro b hb
    simp only [List.mem_cons, List.not_mem_nil, or_false] at hb
    rcases hb with rfl | rfl
    · exact h2 _ (by simp)
    · exact l2
  · intro b hb
    simp only [List.mem_cons, List.not_mem_nil, or_false] at hb
    subst hb
    exact l3
  · intro b hb; cases hb

end

section
theorem four_i {a b c d : Int} {t0 t1 t2 t3 : Tok} {i : Nat} {v : Value} (h : (#[.int a t0, .int b t1, .int c t2, .int d t3] : Array Value)[i]? = some v) : ∃ k t, v = .int k t := by
  rcases i with _ | _ | _ | _ | i
  · exact ⟨_, _, (Option.some.inj h).symm⟩
  · exact ⟨_, _, (Option.some.inj h).symm⟩
  · exact ⟨_, _, (Option.some.inj h).symm⟩
  · exact ⟨_, _, (Option.some.inj h).symm⟩
  · simp at h
theorem four_at {a b c d : List Nat} {t0 t1 t2 t3 : Tok} {i : Nat} {v : Value} (h : (#[.str (tx a) t0, .str (tx b) t1, .str (tx c) t2, .str (tx d) t3] : Array Value)[i]? = some v) : ∃ t, v = .str (tx (wf a b c d d i)) t := by
  rcases i with _ | _ | _ | _ | i
  · exact ⟨_, (Option.some.inj h).symm⟩
  · exact ⟨_, (Option.some.inj h).symm⟩
  · exact ⟨_, (Option.some.inj h).symm⟩
  · exact ⟨_, (Option.some.inj h).symm⟩
  · simp at h
theorem four_list {ys : List Value} {Y : Nat → Value → Prop} (hl : ys.length = 4) (hY : ∀ i v, ys[i]? = some v → Y i v) : ∃ a b c d, ys = [a, b, c, d] ∧ Y 0 a ∧ Y 1 b ∧ Y 2 c ∧ Y 3 d := by
  obtain ⟨a, b, c, d, rfl⟩ := len4 hl
  exact ⟨a, b, c, d, rfl, hY 0 a rfl, hY 1 b rfl, hY 2 c rfl, hY 3 d rfl⟩
theorem tx_ne (a b : Nat) : (tx [a] != tx [b]) = (a != b) := by
  by_cases h : a = b
  · subst h; simp
  · rw [show (a != b) = true from bne_iff_ne.mpr h]
    exact bne_iff_ne.mpr fun e => h (by
      have := congrArg (fun s => s.cps.toList) e
      simpa [tx] using this)
theorem cntB_congr {f g : Nat → Bool} : ∀ {n : Nat}, (∀ i, i < n → f i = g i) → cntB f n = cntB g n
  | 0, _ => rfl
  | n + 1, h => by unfold cntB; rw [cntB_congr fun i hi => h i (Nat.lt_succ_of_lt hi), h n (Nat.lt_succ_self n)]
/-- in how many places two words differ -/
noncomputable def apart6 (a b : List Nat) : Nat := cntB (fun j => tx [at' a j] != tx [at' b j]) 6
theorem apart_law (look : Int) {x y : Int} {a b : Nat} (ex : x = a) (ey : y = b) (hx : a < 32) (hy : b < 32) : apart6 (spell x look) (spell y look) = pop (a ^^^ b) := by
  subst ex ey
  rw [← price_law look hx hy]
  exact cntB_congr fun i _ => tx_ne _ _
theorem wf_len {x0 x1 x2 x3 look : Int} (i : Nat) : (wf (spell x0 look) (spell x1 look) (spell x2 look) (spell x3 look) (spell x3 look) i).length = 6 := by
  rcases i with _ | _ | _ | _ | i <;> exact spell_length _ _
section
variable {prog : Program} {w : World} {A : Around} {E : Value → Shared → Prop} {s : Shared} {Q : Value → Shared → Prop}
theorem ne_ints_same {a b : Addr} {vs us : List Value} {ns : List Int} (hl : s.heap.IsList a vs.toArray) (hl' : s.heap.IsList b us.toArray) (hi : IntsAre vs ns) (hi' : IntsAre us ns) (hu : A.units + 64 < cLine)
    (h : Q (.bool false) s) : wpAny (model prog w) A (compareOp .NotEq (.ref a) (.ref b)) Q E s :=
  ne_intsK hl hi hl' hi' hu (by rw [decide_eq_true rfl]; exact h)
theorem ne_int_same {a b : Int} {t u : Tok} (e : a = b) (h : Q (.bool false) s) : wpAny (model prog w) A (compareOp .NotEq (.int a t) (.int b u)) Q E s :=
  ne_int (by rw [show (a != b) = false by rw [e]; simp]; exact h)
theorem eq_int_same {a b : Int} {t u : Tok} (e : a = b) (h : Q (.bool true) s) : wpAny (model prog w) A (compareOp .Eq (.int a t) (.int b u)) Q E s :=
  eq_int (by rw [show (a == b) = true by rw [e]; simp]; exact h)
end
theorem line_law {rest : List Value} {es a b c d e : List Nat} (hln : ∀ ln, lnAfter ln rest = ln + 1) (hes : es = [a, b, c, d, e].flatten ++ [10, 32]) :
    lnAfter (1 + ((a.count 10 : Nat) : Int) + ((b.count 10 : Nat) : Int) + ((c.count 10 : Nat) : Int) + ((d.count 10 : Nat) : Int) + ((e.count 10 : Nat) : Int)) rest = 1 + ((es.count 10 : Nat) : Int) := by
  rw [hln, hes]
  simp only [List.flatten_cons, List.flatten_nil, List.append_nil, List.count_append]
  have : List.count 10 [10, 32] = 1 := rfl
  rw [this]
  lia
noncomputable def DistsL (x0 x1 x2 x3 h : Int) (d0 d1 d2 d3 : Nat) : Prop := ∀ look, apart6 (spell x0 look) (spell h look) = d0 ∧ apart6 (spell x1 look) (spell h look) = d1 ∧ apart6 (spell x2 look) (spell h look) = d2 ∧ apart6 (spell x3 look) (spell h look) = d3
theorem dists_mk {x0 x1 x2 x3 y : Int} {m h m1 m2 m3 d0 d1 d2 d3 : Nat} (e0 : x0 = m) (e1 : y = h) (e2 : x1 = m1) (e3 : x2 = m2) (e4 : x3 = m3) (s0 : m < 32) (s1 : h < 32) (s2 : m1 < 32) (s3 : m2 < 32) (s4 : m3 < 32)
    (r0 : pop (m ^^^ h) = d0) (r1 : pop (m1 ^^^ h) = d1) (r2 : pop (m2 ^^^ h) = d2) (r3 : pop (m3 ^^^ h) = d3) : DistsL x0 x1 x2 x3 y d0 d1 d2 d3 :=
  fun look => ⟨(apart_law look e0 e1 s0 s1).trans r0, (apart_law look e2 e1 s2 s1).trans r1, (apart_law look e3 e1 s3 s1).trans r2, (apart_law look e4 e1 s4 s1).trans r3⟩
theorem due_is {x0 x1 x2 x3 h look : Int} {d0 d1 d2 d3 : Nat} {ys : List Value} (D : DistsL x0 x1 x2 x3 h d0 d1 d2 d3) (hl : ys.length = 4)
    (hY : ∀ i v, ys[i]? = some v → ∃ t, v = Value.int ((apart6 (wf (spell x0 look) (spell x1 look) (spell x2 look) (spell x3 look) (spell x3 look) i) (spell h look) : Nat) : Int) t) :
    ∃ t0 t1 t2 t3, ys = [Value.int (d0 : Int) t0, Value.int (d1 : Int) t1, Value.int (d2 : Int) t2, Value.int (d3 : Int) t3] := by
  obtain ⟨a, b, c, d, rfl, ⟨ta, rfl⟩, ⟨tb, rfl⟩, ⟨tc, rfl⟩, ⟨td, rfl⟩⟩ := four_list hl hY
  obtain ⟨p0, p1, p2, p3⟩ := D look
  refine ⟨ta, tb, tc, td, ?_⟩
  simp only [wf, p0, p1, p2, p3]
theorem cntB_le (f : Nat → Bool) : ∀ n, cntB f n ≤ n
  | 0 => Nat.le_refl 0
  | n + 1 => by
    unfold cntB
    have := cntB_le f n
    split <;> lia
theorem len_kept {prog : Program} {w : World} {A : Around} {E : Value → Shared → Prop} {s : Shared} {Q : Value → Shared → Prop} {h₀ : Heap} {L D : Addr} {news : List (Addr × Obj)} {ys : List Value} {f : Nat → Bool}
    (N : News h₀ L s.heap news) (hm : (D, LCg.lst ys) ∈ news) (hl : ys.length = cntB f 6) (h : Q (.int ((cntB f 6 : Nat) : Int) (s.toks + 1)) { s with toks := s.toks + 1 + 1 }) :
    wpAny (model prog w) A (PySem.call (.builtin "len") [.ref D]) Q E s := by
  have hc := cntB_le f 6
  refine len_list ⟨_, (N _ hm).1, rfl, _, rfl⟩ (by rw [List.size_toArray, hl]; lia) ?_
  rw [List.size_toArray, hl]
  exact h

end

section
section
variable {prog : Program} {w : World} {A : Around} {E : Value → Shared → Prop} {h₀ : Heap} {L : Addr} {m : PySem.Str → Option Value} {env : Env}
/-- one turn of a comprehension whose name is a cell -/
noncomputable def TurnK (prog : Program) (w : World) (A : Around) (h₀ : Heap) (L : Addr) (m : PySem.Str → Option Value) (env : Env) (elt : PySem.Expr) (x : PySem.Str) (scope : Scope) (cl : List (PySem.Str × Addr)) (s₁ : Shared) (news : List (Addr × Obj)) (Y : Nat → Value → Prop) (P : Nat → Value → Prop) : Prop :=
  ∀ i v I oI C oC K oK D ys h tk (E' Q' : Value → Shared → Prop), P i v → oK.data = Data.cell (some v) → Fr h₀ L h m → News h₀ L h ((I, oI) :: (C, oC) :: (K, oK) :: (D, LCg.lst ys) :: news) →
    (∀ y' h' tk', Y i y' → Fr h₀ L h' m → News h₀ L h' ((I, oI) :: (C, oC) :: (K, oK) :: (D, LCg.lst ys) :: news) → Q' y' { s₁ with heap := h', toks := tk' }) →
    wpAny (model prog w) A (eval elt (compEnvC scope ((x, K) :: cl) C env)) Q' E' { s₁ with heap := h, toks := tk }
/-- the list that a comprehension goes through, and what it is to leave -/
noncomputable def SrcK (prog : Program) (w : World) (A : Around) (h₀ : Heap) (L : Addr) (m : PySem.Str → Option Value) (env : Env) (elt : PySem.Expr) (x y : PySem.Str) (scope : Scope) (cl : List (PySem.Str × Addr)) (Q : Flow → Shared → Prop) (xv : Value) (s₁ : Shared) : Prop :=
  ∃ ax its news Y, xv = .ref ax ∧ A.handled = none ∧ Fr h₀ L s₁.heap m ∧ News h₀ L s₁.heap news ∧ LCg.SrcAt h₀ ax its news ∧ its.size ≤ sizeLine ∧
    (∀ s₂ : Shared, (∃ h, s₂ = { s₁ with heap := h }) → TurnK prog w A h₀ L m env elt x scope cl s₂ news Y (fun i v => its[i]? = some v)) ∧
    (∀ D ys h tk, ys.length = its.size → (∀ i v, ys[i]? = some v → Y i v) → Fr h₀ L h (fun z => if z = y then some (.ref D) else m z) → News h₀ L h ((D, LCg.lst ys) :: news) → LCg.Off1 D news → Q .next { s₁ with heap := h, toks := tk })

/-- the four objects of such a comprehension, one behind the other from the place n on: the list's iterator, the list that is made, the names' dict, the cell; ahead of n the ledger news -/
structure Quad (h : Heap) (n : Nat) (oI oD oC oK : Obj) (news : List (Addr × Obj)) : Prop where
  it : h.get? n = some oI
  out : h.get? (n + 1) = some oD
  dict : h.get? (n + 2) = some oC
  cell : h.get? (n + 3) = some oK
  old : ∀ p ∈ news, h.get? p.1 = some p.2 ∧ @LT.lt Nat _ p.1 n

theorem Quad.move {h h' : Heap} {n z : Nat} {oI oD oC oK oI' oD' oC' oK' : Obj} {news : List (Addr × Obj)} (X : Quad h n oI oD oC oK news)
    (k : ∀ b o, @Ne Nat b z → h.get? b = some o → h'.get? b = some o) (hz : n ≤ z)
    (e0 : (n = z ∧ h'.get? n = some oI') ∨ (@Ne Nat n z ∧ oI' = oI)) (e1 : (n + 1 = z ∧ h'.get? (n + 1) = some oD') ∨ (@Ne Nat (n + 1) z ∧ oD' = oD))
    (e2 : (n + 2 = z ∧ h'.get? (n + 2) = some oC') ∨ (@Ne Nat (n + 2) z ∧ oC' = oC)) (e3 : (n + 3 = z ∧ h'.get? (n + 3) = some oK') ∨ (@Ne Nat (n + 3) z ∧ oK' = oK)) :
    Quad h' n oI' oD' oC' oK' news where
  it := e0.elim (fun q => q.2) fun q => q.2 ▸ k _ _ q.1 X.it
  out := e1.elim (fun q => q.2) fun q => q.2 ▸ k _ _ q.1 X.out
  dict := e2.elim (fun q => q.2) fun q => q.2 ▸ k _ _ q.1 X.dict
  cell := e3.elim (fun q => q.2) fun q => q.2 ▸ k _ _ q.1 X.cell
  old := fun p hp => ⟨k _ _ (Nat.ne_of_lt (Nat.lt_of_lt_of_le (X.old p hp).2 hz)) (X.old p hp).1, (X.old p hp).2⟩
theorem plus_ne (n : Nat) {a b : Nat} (h : a ≠ b) : @Ne Nat (n + a) (n + b) := fun e => h (Nat.add_left_cancel e)
theorem Quad.setIt {h h' : Heap} {n : Nat} {oI oD oC oK o : Obj} {news : List (Addr × Obj)} (X : Quad h n oI oD oC oK news) (k : ∀ b q, @Ne Nat b n → h.get? b = some q → h'.get? b = some q) (e : h'.get? n = some o) : Quad h' n o oD oC oK news :=
  X.move k (Nat.le_refl _) (.inl ⟨rfl, e⟩) (.inr ⟨plus_ne n (b := 0) (by decide), rfl⟩) (.inr ⟨plus_ne n (b := 0) (by decide), rfl⟩) (.inr ⟨plus_ne n (b := 0) (by decide), rfl⟩)
theorem Quad.setOut {h h' : Heap} {n : Nat} {oI oD oC oK o : Obj} {news : List (Addr × Obj)} (X : Quad h n oI oD oC oK news) (k : ∀ b q, @Ne Nat b (n + 1) → h.get? b = some q → h'.get? b = some q) (e : h'.get? (n + 1) = some o) : Quad h' n oI o oC oK news :=
  X.move k (Nat.le_add_right _ _) (.inr ⟨plus_ne n (a := 0) (by decide), rfl⟩) (.inl ⟨rfl, e⟩) (.inr ⟨plus_ne n (by decide), rfl⟩) (.inr ⟨plus_ne n (by decide), rfl⟩)
theorem Quad.setCell {h h' : Heap} {n : Nat} {oI oD oC oK o : Obj} {news : List (Addr × Obj)} (X : Quad h n oI oD oC oK news) (k : ∀ b q, @Ne Nat b (n + 3) → h.get? b = some q → h'.get? b = some q) (e : h'.get? (n + 3) = some o) : Quad h' n oI oD oC o news :=
  X.move k (Nat.le_add_right _ _) (.inr ⟨plus_ne n (a := 0) (by decide), rfl⟩) (.inr ⟨plus_ne n (by decide), rfl⟩) (.inr ⟨plus_ne n (by decide), rfl⟩) (.inl ⟨rfl, e⟩)

/-- where a comprehension of this kind stands: the frame L and what came before it lie ahead of n -/
structure Ground (h₀ : Heap) (L : Addr) (n : Nat) (news : List (Addr × Obj)) : Prop where
  frame : @LT.lt Nat _ L n
  bare : ∀ b, @LE.le Nat _ n b → h₀.get? b = none
  own : ∀ p ∈ news, @Ne Nat p.1 L ∧ h₀.get? p.1 = none
theorem Ground.ne {n : Nat} {news : List (Addr × Obj)} (G : Ground h₀ L n news) (a : Nat) : @Ne Nat (n + a) L := Nat.ne_of_gt (Nat.lt_of_lt_of_le G.frame (Nat.le_add_right _ _))
theorem Ground.zero {n : Nat} {news : List (Addr × Obj)} (G : Ground h₀ L n news) (a : Nat) : h₀.get? (n + a) = none := G.bare _ (Nat.le_add_right _ _)
theorem Ground.ledger {h : Heap} {n : Nat} {oI oD oC oK : Obj} {news : List (Addr × Obj)} (G : Ground h₀ L n news) (X : Quad h n oI oD oC oK news) :
    News h₀ L h ((n, oI) :: (n + 2, oC) :: (n + 3, oK) :: (n + 1, oD) :: news) :=
  List.forall_mem_cons.mpr ⟨⟨X.it, G.ne 0, G.zero 0⟩, List.forall_mem_cons.mpr ⟨⟨X.dict, G.ne 2, G.zero 2⟩, List.forall_mem_cons.mpr ⟨⟨X.cell, G.ne 3, G.zero 3⟩,
    List.forall_mem_cons.mpr ⟨⟨X.out, G.ne 1, G.zero 1⟩, fun p hp => ⟨(X.old p hp).1, G.own p hp⟩⟩⟩⟩⟩
theorem Quad.again {h h' : Heap} {n : Nat} {oI oD oC oK : Obj} {news : List (Addr × Obj)} (X : Quad h n oI oD oC oK news) (N : News h₀ L h' ((n, oI) :: (n + 2, oC) :: (n + 3, oK) :: (n + 1, oD) :: news)) : Quad h' n oI oD oC oK news := by
  have a := List.forall_mem_cons.mp N
  have b := List.forall_mem_cons.mp a.2
  have c := List.forall_mem_cons.mp b.2
  have d := List.forall_mem_cons.mp c.2
  exact ⟨a.1.1, d.1.1, b.1.1, c.1.1, fun p hp => ⟨(d.2 p hp).1, (X.old p hp).2⟩⟩

theorem every_snoc {Y : Nat → Value → Prop} {ys : List Value} {y : Value} (h : ∀ j v, ys[j]? = some v → Y j v) (hy : Y ys.length y) : ∀ j v, (ys ++ [y])[j]? = some v → Y j v := by
  intro j v e
  rcases Nat.lt_or_ge j ys.length with l | l
  · exact h j v (by rwa [List.getElem?_append_left l] at e)
  · have l' := (List.getElem?_eq_some_iff.mp e).1
    rw [List.length_append, List.length_singleton] at l'
    obtain rfl := Nat.le_antisymm (Nat.le_of_lt_succ l') l
    simp only [List.getElem?_append_right (Nat.le_refl _), Nat.sub_self, List.getElem?_cons_zero, Option.some.injEq] at e
    exact e ▸ hy

/-- between two turns: i items are through -/
inductive InvK (h₀ : Heap) (L : Addr) (m : PySem.Str → Option Value) (s₁ : Shared) (ax : Addr) (its : Array Value) (n : Nat) (news : List (Addr × Obj)) (Y : Nat → Value → Prop) : Nat → Shared → Prop
  | mk {i : Nat} {ys : List Value} {h : Heap} {tk : Nat} {oI oC oK : Obj} {c : Option Value} {mC : PySem.Str → Option Value} : i ≤ its.size → ys.length = i → (∀ j v, ys[j]? = some v → Y j v) →
      oI.cls = .type "list_iterator" → oI.data = .fields #[.ref ax, .int i 0] → LCg.NsObj oC mC → oK.data = Data.cell c → Fr h₀ L h m → Quad h n oI (LCg.lst ys) oC oK news →
      InvK h₀ L m s₁ ax its n news Y (its.size + 1 - i) { s₁ with heap := h, toks := tk }

/-- the loop, from such a state on -/
theorem loop_cell {elt iter : PySem.Expr} {x : PySem.Str} {px : Pos} {scope : Scope} {cl : List (PySem.Str × Addr)} {pos : Pos} {s₁ s : Shared} {ax : Addr} {its : Array Value} {n k : Nat} {news : List (Addr × Obj)} {Y : Nat → Value → Prop} {R : Result → Shared → Prop}
    (hh : A.handled = none) (G : Ground h₀ L n news) (S : LCg.SrcAt h₀ ax its news) (hsz : its.size ≤ sizeLine) (hkind : scope.kind = .function) (hx : (relabel scope env).names.lookup x = some .cell)
    (T : TurnK prog w A h₀ L m env elt x scope cl s₁ news Y (fun i v => its[i]? = some v))
    (hR : ∀ ys h h' tk oI oC oK mC, ys.length = its.size → (∀ j v, ys[j]? = some v → Y j v) → LCg.NsObj oC mC → Fr h₀ L h' m → Quad h n oI (LCg.lst ys) oC oK news → (∀ b q, @Ne Nat b n → h.get? b = some q → h'.get? b = some q) →
      R (.ok .next) { s₁ with heap := h', toks := tk })
    (H : InvK h₀ L m s₁ ax its n news Y k s) :
    codeAny (model prog w) A (.compLoop (.ListComp elt [⟨.Name x px, iter, [], 0⟩] scope pos) 0 (.ref n) (.ref (n + 1)) (compEnvC scope ((x, n + 3) :: cl) (n + 2) env)) R s := by
  refine codeAny_compLoop_tests (InvK h₀ L m s₁ ax its n news Y) (fun k s H => ?_) k H
  induction H
  rename_i i ys h tk oI oC oK c mC hi hl hY cI dI nC dK F X
  have src : h.IsList ax its := S.list F.keep fun p hp => ⟨(X.old p hp).1, G.own p hp⟩
  rcases Nat.lt_or_ge i its.size with lt | ge
  · refine wpAny_pyNext_list_item (x := its[i]) ⟨oI, X.it, cI, dI⟩ src (Array.getElem?_eq_getElem lt) fun h₂ ⟨oI₂, g₂, cI₂, dI₂⟩ b₂ => ?_
    have X₂ := X.setIt (fun b o ne e => (b₂.2 b ne).trans e) g₂
    refine wpAny_assign_Name (wpAny_storeName_cell (c := n + 3) hkind hx (by simp [compEnvC]) ⟨oK, X₂.cell, dK⟩ fun h₃ ⟨oK₃, g₃, dK₃⟩ b₃ => ?_)
    have X₃ := X₂.setCell (fun b o ne e => (b₃.2 b ne).trans e) g₃
    refine wpAny_tests_nil ((if_pos rfl).mpr ?_)
    refine T i its[i] n oI₂ (n + 2) oC (n + 3) oK₃ (n + 1) ys h₃ _ _ _ (Array.getElem?_eq_getElem lt) dK₃ ((F.change b₂ (G.ne 0) (G.zero 0)).change b₃ (G.ne 3) (G.zero 3)) (G.ledger X₃) fun y' h₄ tk₄ hy F₄ N₄ => ?_
    have X₄ := X₃.again N₄
    refine append_at (hsz := by rw [List.size_toArray, hl]; exact Nat.le_trans hi hsz) X₄.out fun h₅ b₅ g₅ => ?_
    exact ⟨its.size + 1 - (i + 1), by lia, .mk lt (by rw [List.length_append, hl]; rfl) (every_snoc hY (hl ▸ hy)) cI₂ dI₂ nC dK₃ (F₄.change b₅ (G.ne 1) (G.zero 1)) (X₄.setOut (fun b o ne e => (b₅.2 b ne).trans e) (g₅.trans (congrArg some (LCg.lst_snoc ys y'))))⟩
  · obtain rfl := Nat.le_antisymm hi ge
    refine wpAny_pyNext_list_end hh ⟨oI, X.it, cI, dI⟩ src (Array.getElem?_eq_none ge) fun h' b => ?_
    exact hR ys h h' _ oI oC oK mC hl hY nC ⟨F.ns.at' fun o e => b L o (Nat.ne_of_lt G.frame) e, fun a o e => b a o (fun q => by have z := G.zero 0; rw [show n + 0 = a from q.symm, e] at z; cases z) (F.keep a o e), F.above⟩ X b

/-- the frame of a comprehension whose one laid name is a cell: a dict and, behind it, the cell -/
theorem frame_cell {M : Model} {s : Shared} {scope : Scope} {g : Addr} {cl : List (PySem.Str × Addr)} {qual x : PySem.Str} {o : Env} {Q : Env → Shared → Prop}
    (hcf : ∀ n, cellsFrom n scope.names cl = (x, n) :: cl) (hpc : ∀ h, pushCells h scope.names = h.push { cls := .type "cell", data := .cell none })
    (h : Q { scope, locals := s.heap.objs.size, globals := g, cells := (x, s.heap.objs.size + 1) :: cl, qual, func := none, code := o.code, frame := o.frame, builtins := o.builtins }
      { s with heap := (s.heap.push { cls := .type "dict", data := .dict #[] }).push { cls := .type "cell", data := .cell none } }) :
    wpAny M A (newFunctionEnv scope g cl [] qual none .none (some o)) Q E s := by
  unfold newFunctionEnv
  refine wpAny_bind (wpAny_alloc (wpAny_bind (wpAny_layCells _ (fun _ kind _ => ?_) _ _ _ _ ?_)))
  · by_cases q : (kind == NameKind.cell) = true
    · simp [q]
    · simp [q]
  · rw [hcf, hpc, Heap.size_push]
    exact wpAny_bind (wpAny_pure (wpAny_pure h))
theorem at_top {h : Heap} {a : Nat} {o : Obj} (e : h.objs.size = a) (ho : o.isFreed = false) : (h.push o).get? a = some o := e ▸ Heap.get?_push_size h ho
theorem Quad.laid {g : Heap} {oI oD oC oK : Obj} {news : List (Addr × Obj)} (hI : oI.isFreed = false) (hD : oD.isFreed = false) (hC : oC.isFreed = false) (hK : oK.isFreed = false) (N : ∀ p ∈ news, g.get? p.1 = some p.2) :
    Quad ((((g.push oI).push oD).push oC).push oK) g.objs.size oI oD oC oK news := by
  have e1 : (g.push oI).objs.size = g.objs.size + 1 := Heap.size_push ..
  have e2 : ((g.push oI).push oD).objs.size = g.objs.size + 2 := by rw [Heap.size_push, e1]
  have e3 : (((g.push oI).push oD).push oC).objs.size = g.objs.size + 3 := by rw [Heap.size_push, e2]
  have up : ∀ {h : Heap} {a b : Obj} {i : Addr} {o : Obj}, h.get? i = some o → ((h.push a).push b).get? i = some o := fun e => Heap.get?_push_of_some _ (Heap.get?_push_of_some _ e)
  exact ⟨up (Heap.get?_push_of_some _ (at_top rfl hI)), up (at_top e1 hD), Heap.get?_push_of_some _ (at_top e2 hC), at_top e3 hK, fun p hp => ⟨up (up (N p hp)), Heap.lt_size (N p hp)⟩⟩

/-- from the list's iterator to the last turn -/
theorem start_cell {s₁ : Shared} {elt iter : PySem.Expr} {x y : PySem.Str} {px py : Pos} {scope : Scope} {cl : List (PySem.Str × Addr)} {pos : Pos} {Q : Flow → Shared → Prop} {xv : Value}
    (hcf : ∀ n, cellsFrom n scope.names cl = (x, n) :: cl) (hpc : ∀ h, pushCells h scope.names = h.push { cls := .type "cell", data := .cell none }) (hkind : scope.kind = .function) (hx : (relabel scope env).names.lookup x = some .cell)
    (hy : env.kindOf y = some .local) (hp : (env.scope.kind == .class || (env.scope.kind == .module && env.locals != env.globals)) = false)
    (src : SrcK prog w A h₀ env.locals m env elt x y scope cl Q xv s₁) :
    wpAny (model prog w) A (pyIter xv) (fun it s₂ => wpAny (model prog w) A (newList []) (fun acc s₃ => wpAny (model prog w) A (newFunctionEnv scope env.globals cl [] env.qual none .none (some env)) (fun cenv s₄ =>
      codeAny (model prog w) A (.compStart (.ListComp elt [⟨.Name x px, iter, [], 0⟩] scope pos) 0 it acc { cenv with scope := relabel scope env })
        (compPost (model prog w) A E (some (assign (.Name y py) env)) (fun _ s' => Q .next s') acc cenv.locals) s₄) E s₃) E s₂) E s₁ := by
  obtain ⟨ax, its, news, Y, rfl, hh, F, N, S, hsz, T, fin⟩ := src
  have G : Ground h₀ env.locals s₁.heap.objs.size news := ⟨F.ns.lt, fun b hb => Heap.get?_none_of_le (Nat.le_trans F.above (Nat.le_trans (Nat.le_of_lt F.ns.lt) hb)), fun p hp => (N p hp).2⟩
  refine wpAny_pyIter_list (S.list F.keep N) (wpAny_newObj_type (frame_cell hcf hpc ?_))
  dsimp only
  simp only [Heap.size_push]
  have X : Quad ((((s₁.heap.push { cls := .type "list_iterator", data := .fields #[.ref ax, .int 0 0] }).push (LCg.lst [])).push { cls := .type "dict", data := .dict #[] }).push { cls := .type "cell", data := .cell none }) s₁.heap.objs.size _ _ _ _ news :=
    .laid rfl rfl rfl rfl fun p hp => (N p hp).1
  have loop := loop_cell (elt := elt) (iter := iter) (px := px) (pos := pos) hh G S hsz hkind hx (T s₁ ⟨s₁.heap, rfl⟩) (R := compPost (model prog w) A E (some (assign (.Name y py) env)) (fun _ s' => Q .next s') (.ref (s₁.heap.objs.size + 1)) (s₁.heap.objs.size + 2))
    (fun ys h h' tk oI oC oK mC ln hY nC F' X' k => by
      refine wpAny_assign_Name (wpAny_storeName_local hy F'.ns (fun h₂ hn₂ b₂ => ⟨mC, nC.ns ((b₂.2 _ (G.ne 2)).trans (k _ _ (plus_ne _ (b := 0) (by decide)) X'.dict)), fun h₃ b₃ => ?_⟩) hp)
      have keep : ∀ b q, @Ne Nat b s₁.heap.objs.size → @Ne Nat b env.locals → @Ne Nat b (s₁.heap.objs.size + 2) → h.get? b = some q → h₃.get? b = some q := fun b q a c d e => (b₃.2 b d).trans ((b₂.2 b c).trans (k b q a e))
      refine fin (s₁.heap.objs.size + 1) ys h₃ _ ln hY ((F'.set hn₂ b₂).change b₃ (G.ne 2) (G.zero 2)) (List.forall_mem_cons.mpr ⟨⟨keep _ _ (plus_ne _ (b := 0) (by decide)) (G.ne 1) (plus_ne _ (by decide)) X'.out, G.ne 1, G.zero 1⟩, fun p hp => ?_⟩) (off1_of fun p hp => Nat.ne_of_lt (Nat.lt_succ_of_lt (X'.old p hp).2))
      have l := (X'.old p hp).2
      exact ⟨keep _ _ (Nat.ne_of_lt l) (G.own p hp).1 (Nat.ne_of_lt (Nat.lt_of_lt_of_le l (Nat.le_add_right _ _))) (X'.old p hp).1, G.own p hp⟩)
    (.mk (tk := s₁.toks) (ys := []) (mC := fun _ => none) (Nat.zero_le _) rfl (fun j v e => nomatch e) rfl rfl ⟨#[], 0, rfl, fun _ e => by simp at e, fun _ => rfl⟩ rfl
      (F.keeps fun _ _ e => Heap.get?_push_of_some _ (Heap.get?_push_of_some _ (Heap.get?_push_of_some _ (Heap.get?_push_of_some _ e)))) X)
  exact codeAny_compStart_list loop (wpAny_pyIter_listiter ⟨_, X.it, rfl, rfl⟩ loop)

theorem Assign_cell {s : Shared} {elt iter : PySem.Expr} {x y : PySem.Str} {px py : Pos} {scope : Scope} {cl : List (PySem.Str × Addr)} {pos spos : Pos} {Q : Flow → Shared → Prop} (F₀ : Fr h₀ L s.heap m) (hLe : env.locals = L)
    (hsw : swapsWith (.ListComp elt [⟨.Name x px, iter, [], 0⟩] scope pos) (some (.Name y py)) spos.line env = pure true)
    (hclos : closureFor scope env = pure cl) (hcf : ∀ n, cellsFrom n scope.names cl = (x, n) :: cl) (hpc : ∀ h, pushCells h scope.names = h.push { cls := .type "cell", data := .cell none }) (hkind : scope.kind = .function)
    (hnames : ∀ z ∈ scope.names, z.2 = .local → scope.names.lookup z.1 = some .local) (hx : (relabel scope env).names.lookup x = some .cell)
    (hy : env.kindOf y = some .local) (hp : (env.scope.kind == .class || (env.scope.kind == .module && env.locals != env.globals)) = false)
    (h : wpAny (model prog w) A (eval iter env) (SrcK prog w A h₀ L m env elt x y scope cl Q) E s)
    (hs : ∀ x, foldedSetIterable iter env x = pure x := by intro _; rfl) :
    wpAny (model prog w) A (exec (.Assign [.Name y py] (.ListComp elt [⟨.Name x px, iter, [], 0⟩] scope pos) spos) env) Q E s := by
  cases hLe
  have c : ∀ q, wpAny (model prog w) A (comprehension (.ListComp elt [⟨.Name x px, iter, [], 0⟩] scope pos) scope env q (newList []) false (eval iter env) (some (assign (.Name y py) env))) (fun _ s' => Q .next s') E s := fun q =>
    wpAny_comprehension_free rfl hs hclos hkind hnames (wpAny_mono h (fun _ _ k => start_cell hcf hpc hkind hx hy hp k) fun _ _ k => k)
  rw [exec_Assign_Name_used _ _ _ _ hsw]
  exact wpAny_bind (wpAny_standAt (wpAny_bind (wpAny_bind (wpAny_mono (c _) (fun _ _ k => wpAny_pure (wpAny_pure k)) fun _ _ k => k))))
end

end

section
theorem AtL.mem {l : List Addr} : ∀ {as : List Addr} {I : List Nat}, AtL l as I → ∀ b ∈ as, ∃ j, j ∈ I ∧ AtI l b j
  | _, _, .nil, b, hb => nomatch hb
  | _, _, .cons ha hs, b, hb => by
    rcases List.mem_cons.mp hb with rfl | hb
    · exact ⟨_, .head _, ha⟩
    · obtain ⟨j, hj, h⟩ := AtL.mem hs b hb
      exact ⟨j, .tail _ hj, h⟩
noncomputable def nodupB : List Nat → Bool
  | [] => true
  | i :: is => (is.all fun j => i != j) && nodupB is
theorem apart_idx {l : List Addr} (h : Apart l) : ∀ {as : List Addr} {I : List Nat}, AtL l as I → nodupB I = true → Apart as
  | _, _, .nil, _ => trivial
  | _, _, .cons ha hs, hd => by
    simp only [nodupB, Bool.and_eq_true] at hd
    refine ⟨fun b hb => ?_, apart_idx h hs hd.2⟩
    obtain ⟨j, hj, hbj⟩ := hs.mem b hb
    exact ha.ne h hbj (bne_iff_ne.mp (List.all_eq_true.mp hd.1 j hj))
theorem apart_call {news' rest : List (Addr × Obj)} {A B : List Addr} (a1 : ∀ q ∈ news', LCg.Off1 q.1 rest) (hB : Apart B) (sB : ∀ b ∈ B, b ∈ news'.map (·.1)) (hA : Apart A) (sA : ∀ a ∈ A, a ∈ rest.map (·.1)) : Apart (A ++ B) :=
  apart_append hA hB fun a ha b hb => by
    obtain ⟨q, hq, rfl⟩ := List.mem_map.mp (sB b hb)
    obtain ⟨r, hr, rfl⟩ := List.mem_map.mp (sA a ha)
    exact (off1_mem (a1 q hq) r hr).symm
theorem apart_asked {news' rest : List (Addr × Obj)} {A B C : List Addr} (a1 : ∀ q ∈ news', LCg.Off1 q.1 rest) (hBC : Apart (B ++ C)) (sB : ∀ b ∈ B, b ∈ news'.map (·.1)) (hA : Apart A) (sA : ∀ a ∈ A, a ∈ C ∨ a ∈ rest.map (·.1)) : Apart (B ++ A) :=
  apart_append (apart_left hBC) hA fun b hb a ha => by
    rcases sA a ha with h | h
    · have : ∀ {l r : List Addr}, Apart (l ++ r) → ∀ a ∈ l, ∀ b ∈ r, @Ne Nat b a := by
        intro l
        induction l with
        | nil => intro r _ a ha; cases ha
        | cons c l ih =>
          intro r hh a ha b hb
          rcases List.mem_cons.mp ha with rfl | ha
          · exact hh.1 _ (List.mem_append.mpr (.inr hb))
          · exact ih hh.2 a ha b hb
      exact this hBC b hb a h
    · obtain ⟨q, hq, rfl⟩ := List.mem_map.mp (sB b hb)
      obtain ⟨r, hr, rfl⟩ := List.mem_map.mp h
      exact off1_mem (a1 q hq) r hr
theorem ap8 {x dx st dst f c' cell sl pb : Addr} (h : Apart [168, x, dx, st, dst, f, c', cell, sl, pb]) : Apart [x, dx, st, dst, f, cell, sl, pb] :=
  apart_idx h (I := [1, 2, 3, 4, 5, 7, 8, 9]) (.cons (.tail .head) (.cons (.tail (.tail .head)) (.cons (.tail (.tail (.tail .head))) (.cons (.tail (.tail (.tail (.tail .head)))) (.cons (.tail (.tail (.tail (.tail (.tail .head)))))
    (.cons (.tail (.tail (.tail (.tail (.tail (.tail (.tail .head))))))) (.cons (.tail (.tail (.tail (.tail (.tail (.tail (.tail (.tail .head)))))))) (.cons (.tail (.tail (.tail (.tail (.tail (.tail (.tail (.tail (.tail .head))))))))) .nil)))))))) rfl
theorem asked_ap {x dx st dst f c' cell sl pb x2 dx2 st2 dst2 f2 cell2 sl2 pb2 lm : Addr} {l : List Addr} {I : List Nat} (h1 : ApM [x, dx, st, dst, f, c', cell, sl, pb]) (h2 : ApM [x2, dx2, st2, dst2, f2, c', cell2, sl2, pb2])
    (h : Apart l) (hl : AtL l [x, dx, st, dst, f, c', cell, sl, pb, x2, dx2, pb2, lm] I) (hd : nodupB I = true) : Apart [x, dx, st, dst, f, c', cell, sl, pb, x2, dx2, pb2, lm] := apart_idx h hl hd

end

section
theorem words_tail : True := by
  k_with_none
  k_with "k_room" => (first | decide | ((try simp only [depth_under_make, depth_under_kw, depth_in1, depth_deeper, depth_caller]); lia))
  k_with "eval ListComp" => ((k_here; k_dflt (refine LCg.ListComp_U (F₀ := by k_asm) (by with_unfolding_all rfl) (by decide) (by rfl) (by decide) (by rfl) ?_); k_dflt lcg_toSrc))
  k_with "exec Assign cons ListComp" => ((k_here; k_dflt (refine LCg.Assign_ListComp_U (F₀ := by k_asm) (by rfl) (by with_unfolding_all rfl) (by with_unfolding_all rfl) (by decide) (by rfl) (by decide) (by rfl) (by rfl) (by rfl) ?_); k_dflt lcg_toSrc))
  k_with "CompSrc" => ((k_here; k_dflt (first | (refine LCg.CompSrc.ledger (by rfl) (by k_asm) (by k_asm) (by k_mem) (by first | exact Nat.le_of_ble_eq_true rfl | size_fits) ?_; intro g'; lcg_lit) | (refine LCg.CompSrc.range (by rfl) (by k_asm) (by k_asm) (by assumption) (by first | decide | rfl) (by first | rfl | decide) (by first | exact Nat.le_of_ble_eq_true rfl | size_fits) ?_; intro g'; lcg_lit))))
  k_with "binaryOp Pow int int" => ((k_here; with_reducible refine pow_pw ?kb1 ?kb2 ?_; (case kb1 => assumption); (case kb2 => assumption)))
  k_with "binaryOp Mult int int" => ((k_here; with_reducible refine mul_pw ?kb1 ?kb2 ?_; (case kb1 => assumption); (case kb2 => assumption)))
  k_with "binaryOp BitXor int int" => ((k_here; with_reducible refine xor_xr ?_))
  k_with "CompRest" => ((with_unfolding_all first | (refine LCg.CompRest.succ ?_; intro v' I' oI' C' oC' D' m' h' tk' E' hv' hC' hx' F' N' off' ne'; (first | lcg_open hv' | (obtain ⟨t9', hv9'⟩ := hv'; subst hv9')); (obtain ⟨neIC', neID', neCD'⟩ := ne')) | refine LCg.CompRest.zero ?_))
  k_with "lcg_off" => (with_reducible assumption)
  k_with "CompEnd" => (lcg_end)
  k_with "eval Name" => ((k_here; k_dflt (first
  | (refine' nameX_L ?F ?v ?_ ?a ?b; (case F => k_asm); (case a => rfl); (case b => rfl); (case v => rfl); k_whole)
  | (refine' nameX_C ?N ?c ?m ?d ?_ ?a ?b; (case a => rfl); (case b => rfl); (case N => k_asm); (case c => rfl); (case m => k_mem); (case d => k_asm); k_whole)
  | (refine' nameX_K ?F ?X ?T ?e ?_ ?a ?b; (case F => k_asm); (case X => k_asm); (case T => k_asm); (case a => rfl); (case b => rfl); (case e => k_is); k_whole))))
  k_with "eval Name" => ((k_here; (with_reducible show wpAny _ _ (eval (PySem.Expr.Name _ _) (compEnvC _ _ _ _)) _ _ _); k_dflt (first
  | (refine LCgL.ld_own (by k_asm) (by k_mem) (by assumption) (by assumption) ?_)
  | (refine' lcf_cell ?N ?c ?m ?d ?_ ?a ?b; (case a => rfl); (case b => rfl); (case N => k_asm); (case c => rfl); (case m => k_mem); (case d => k_asm); k_whole)
  | (refine' lcf_free ?N ?c ?m ?d ?_ ?a ?b; (case a => rfl); (case b => rfl); (case N => k_asm); (case c => rfl); (case m => k_mem); (case d => k_asm); k_whole)
  | (refine LCgL.ld_global (by k_asm) (by k_asm) (by k_asm) (by k_is) ?_))))
  k_with "FinE" => (((unfold LCg.FinE); intro D' h' tk' F' N' oq9'; (try simp only [List.nil_append, List.cons_append] at N'); (try dsimp only)))
  k_with "FinA" => (((unfold LCg.FinA); intro D' h' tk' F' N' oq9'; (try simp only [List.nil_append, List.cons_append] at N'); (try dsimp only)))
  k_with "k_ne" => (((try dsimp only); first
  | (with_reducible assumption)
  | (with_reducible exact Ne.symm (by assumption))
  | (refine' off1_ne ?nh ?nm; (case nh => with_reducible assumption); (case nm => k_mem))
  | (refine' off1_ne' ?nh ?nm; (case nh => with_reducible assumption); (case nm => k_mem))
  | (refine' off3_I ?nh ?nm; (case nh => with_reducible assumption); (case nm => k_mem))
  | (refine' off3_C ?nh ?nm; (case nh => with_reducible assumption); (case nm => k_mem))
  | (refine' off3_D ?nh ?nm; (case nh => with_reducible assumption); (case nm => k_mem))
  | (refine' off3_I' ?nh ?nm; (case nh => with_reducible assumption); (case nm => k_mem))
  | (refine' off3_C' ?nh ?nm; (case nh => with_reducible assumption); (case nm => k_mem))
  | (refine' off3_D' ?nh ?nm; (case nh => with_reducible assumption); (case nm => k_mem))
  | (refine' two_ne ?nh ?nm; (case nh => with_reducible assumption); (case nm => tb_start))
  | (refine' two_ne' ?nh ?nm; (case nh => with_reducible assumption); (case nm => tb_start))
  | (refine neN ?_; lia)))
  k_with "tb_start" => (first | (refine' Two.head ?th; (case th => k_mem)) | (refine' Two.tail ?tw; (case tw => tb_start)))
  k_with "call builtin:list.append" => ((k_here; (with_reducible show wpAny _ _ (PySem.call (Value.builtin _) [Value.ref _, _]) _ _ _); k_dflt (refine append_lit (by k_asm) (by k_asm) (by kl_lit) (by k_upd) (by kl_room) ?_); kl_rest))
  k_with "subscriptTail" => ((k_here; (with_reducible show wpAny _ _ (subscriptTail _ _ (Value.ref _) (Value.int _ _)) _ _ _); k_dflt (refine item_N (by k_asm) (by k_mem) (by decide) (by decide) rfl ?_ (by with_unfolding_all rfl))))
  k_with "subscriptTail Name Name ref int" => ((walk_at "subscriptTail"))
  k_with "subscriptTail Name Constant ref int" => ((walk_at "subscriptTail"))
  k_with "getItem ref int" => ((k_here; k_dflt (refine getItem_N (by k_asm) (by k_mem) (by decide) (by decide) rfl ?_)))
  k_with "getMethod ref" => ((k_here; (with_reducible show wpAny _ _ (getMethod (Value.ref _) (PySem.Str.ofString "read") _) _ _ _); k_dflt (refine kmu_own (by k_asm) (by k_asm) (by k_inst) (by k_is) (by k_is) ?_)))
  k_with "And" => (((with_reducible show FnAt _ _ ∧ _); refine ⟨FnAt.of (by k_asm) (by k_mem), ?_⟩; (try dsimp only [List.nil_append, List.cons_append])))
  k_with "k_mem" => (first | exact List.Mem.head _ | exact mem1 | exact mem2 | exact mem3 | exact mem4 | exact mem5 | exact mem6 | exact mem7 | (refine' mem8 ?_; k_mem))
  k_with "lcg_sub" => (first | exact sub_nil | (refine sub_cons (by k_mem) ?_; lcg_sub))
  k_with "kpt_turns" => (first | exact Take.head | exact tk1 | exact tk2 | exact tk3 | (refine' tk4 ?tk; (case tk => kpt_turns)))
  k_with "tb_rel" => (first | exact Pick.nil | (refine' Pick.cons ?pt ?pk; (case pt => kpt_turns); (case pk => tb_rel)))
  k_with "ktm_same2" => (first | exact True.intro | (refine off1_cons (by k_ne) ?_; ktm_same2))
  k_with "ktr_rel" => (first | exact True.intro | (refine And.intro (by ktm_same2) ?_; ktr_rel))
  k_with "ktr_room" => (first | decide | ((try simp only [depth_under_make, depth_under_kw, depth_in1, depth_deeper, depth_caller] at *); lia))
  k_with "truthy ref" => ((k_here; (with_reducible show wpAny _ _ (truthy (Value.ref _)) _ _ _); k_dflt (first
  | (refine truthy_cons (by k_asm) (by k_mem) (by with_reducible assumption) ?_)
  | (refine truthy_nil (by k_asm) (by k_mem) ?_))))
  k_with "call builtin:list.pop" => ((k_here; (with_reducible show wpAny _ _ (PySem.call (Value.builtin _) [Value.ref _, Value.int 0 _]) _ _ _); k_dflt (refine pop0_cons (by k_asm) (by k_asm) (by k_upd) (by with_reducible assumption) ?_); kl_rest))
  k_with "execs cons" => ((k_here; k_fold))
  exact True.intro

/-- the law's last six statements, and its scope -/
noncomputable def lawTail : List Stmt × Scope := match PySem.Challenge.pw_sw0028_01.main.body.getLast? with | some (.FunctionDef _ _ body _ _ _ sc _ _ _) => (body.drop 10, sc) | _ => ([], default)
theorem xorr_spec (w : World) (a b : Int) (t u : Tok) : Spec w 126 1 [.int a t, .int b u] [] (fun v news => news = [] ∧ ∃ t', v = .int (xr a b) t') := by
  unfold Spec
  w_top off
  k_fill
  intro mean mg mb p loose dp un gd fr base g s R B X T hsz H hdp hu hret
  k_dflt (refine enter (binds := [("a", .int a t), ("b", .int b u)]) (by assumption) (by assumption) (by assumption) (by assumption) (by assumption) (by k_is) (by k_is) (by k_room) (BindsTo.of_eq rfl) (locs rfl) ?_ rfl rfl rfl (by decide))
  intro L' h' F' N' l1
  (have offK' := off1_of (fun r hr => Nat.ne_of_lt (l1 r hr)))
  (try (replace l1 := allLt_of l1; simp only [AllLt, and_true] at l1))
  (try dsimp only [List.length_cons, List.length_nil, List.reverse_cons, List.reverse_nil, List.nil_append, List.cons_append])
  (try k_fold)
  repeat' (first | (k_unfold; (try dsimp only)) | (k_end; wrow_close) | walk1 | (dsimp only; walk1) | (dsimp only; k_unfold; (try dsimp only)) | (leave1; walk_say "STEP leave1"; (try dsimp only)) | fail "no step")
  exact spec_end hret (by assumption) (by assumption) [] ⟨rfl, _, rfl⟩ (fun _ h => nomatch h)
theorem words1_tail : True := by
  k_with "tb_start" => (first | (exact AtI.head) | (refine' AtI.tail ?tw; (case tw => tb_start)) | fail "other")
  k_with "tb_rel" => (first
  | (exact AtP.nil) | (exact AtL.nil) | (exact RestI.nil)
  | (refine' AtP.cons ?pt ?pk; (case pt => tb_start); (case pk => tb_rel))
  | (refine' AtL.cons ?pt ?pk; (case pt => tb_start); (case pk => tb_rel))
  | ((first | (refine' RestI.old ?pt ?pk; (case pt => tb_start)) | (refine' RestI.new ?pt ?pk; (case pt => ktm_same2)) | fail "other"); (case pk => tb_rel))
  | fail "other")
  k_with "k_ne" => (((try dsimp only); first
  | (refine' two_neL ?nh ?nm; (case nh => with_reducible assumption); (case nm => tb_start))
  | (refine' two_neL' ?nh ?nm; (case nh => with_reducible assumption); (case nm => tb_start)) | fail "other"))
  k_with "call ref" => ((k_here; k_dflt (refine use1 (xorr_spec _ _ _ _ _) ?_); intros))
  k_with "call ref" => ((k_here; (try k_fold); (first | with_reducible show wpAny _ _ (PySem.call (Value.ref 178) _) _ _ _ | with_reducible show wpAny _ _ (PySem.call (Value.ref 56) _) _ _ _ | with_reducible show wpAny _ _ (PySem.call (Value.ref 183) _) _ _ _); (refine Stop.go ?_)))
  k_with "compareOp NotEq ref ref" => ((k_here; k_dflt (refine ne_strs (cs := [_, _, _, _, _].map tx) (by is_list) (by is_list) strs5 strs5 ok5 (by units_room) ?_)))
  k_with "eval ListComp" => ((k_here; k_dflt (refine LCt.ListComp_T (F₀ := by k_asm) (by with_unfolding_all rfl) (by decide) (by rfl) (by decide) (by rfl) ?_)))
  k_with "CompSrcT" => ((k_here; (with_reducible show LCt.CompSrcT _ _ _ _ _ _ (compEnvC _ _ _ _) _ _ _ _ _ _ _ _); (refine Stop.go ?_)))
  k_with "subscriptTail Name Name str int" => ((k_here; k_dflt (refine it_pos (by lia) (by lia) ?_)))
  k_with "subscriptTail Subscript Name str int" => ((k_here; k_dflt (refine it_pos (by lia) (by lia) ?_)))
  k_with "call builtin:len" => ((k_here; k_dflt (refine len_kept (by k_asm) (by k_mem) (by with_reducible assumption) ?_)))
  k_with "compareOp NotEq int int" => ((k_here; k_dflt (refine ne_int_same (by assumption) ?_)))
  k_with "compareOp Eq int int" => ((k_here; k_dflt (refine eq_int_same (by assumption) ?_)))
  k_with "call builtin:str.count" => ((k_here; k_dflt (refine' count_tx ?_)))
  k_with "exec Assign cons ListComp" => ((k_here; k_dflt (refine Assign_cell (F₀ := by k_asm) (by rfl) (by with_unfolding_all rfl) (by with_unfolding_all rfl) (fun n => rfl) (fun h => rfl) (by rfl) (by decide) (by with_unfolding_all rfl) (by rfl) (by rfl) ?_)))
  k_with "CompSrcT" => ((k_here; (with_reducible show LCt.CompSrcT _ _ _ _ _ _ (envOfC _ _ _ _ _) _ _ _ _ _ _ _ _); k_dflt (refine LCt.CompSrcT.ledger (by rfl) (by k_asm) (by k_asm) (by k_mem) (Nat.le_of_ble_eq_true rfl) ?_; intro g'; (change LCt.CompRestT _ _ _ _ _ _ _ _ _ _ _ _ _ _ _ _ 4 _ _ _))))
  k_with "CompRestT" => ((k_here; (refine Stop.go ?_)))
  exact True.intro

set_option maxHeartbeats 8000000 in
theorem law_tail {s0 s1 s2 s3 s4 s5 : Stmt} {sc : Scope} (hst : lawTail = ([s0, s1, s2, s3, s4, s5], sc)) (w : World) {mean : ExcName → Option Value} {mg mb : PySem.Str → Option Value} {p : Program} {loose : List PySem.Str}
    {base g hh : Heap} {L fa : Addr} {cd : Value} {m : PySem.Str → Option Value} {tk : Nat} {s : Shared} {Q : Flow → Shared → Prop} {E : Value → Shared → Prop}
    {x dx st dst f c' cell sl pb x2 dx2 st2 dst2 f2 cell2 sl2 pb2 lm dr od : Addr} {k1 k2 k3 k4 j1 j2 j3 j4 j5 tw jl jw tl i1 i2 i3 i4 g1 g2 g3 g4 g5 tw2 gl gw tl2 : Tok} {jln gln : Int} {jws gws : PySem.Str} {jpb gpb : Value}
    {name qual name2 qual2 : PySem.Str} {P P2 : Arguments} {Bd Bd2 : PySem.Expr} {Sc Sc2 : Scope} {cl cl2 : List (PySem.Str × Addr)} {pm ctv pm2 ctv2 : Value} {oc ocell ocell2 o168 ocd ocm oco : Obj} {n e n2 e2 n3 n4 n5 : Nat}
    {c1 c2 o0 o1 o2 o3 o4 look y0 y1 y2 y3 y4 : Int} {v0 v1 v2 v3 v4 rest : List Value} {u0 u1 u2 u3 r0 r1 r2 r3 r4 t0 t1 t2 t3 t4 te tm th : Tok} {es : List Nat}
    (B : Below callerA base [] g) (T : Top p loose mean mg mb g)
    (F : Fr g L hh (frm [("line", .ref x2), ("lexer", .ref x), ("signs", .ref sl), ("text", .str (tx es) te), ("marks", .ref lm), ("hidden", .int (c2.fmod 32) th)] m))
    (N : News g L hh [(168, o168), (pb, listOf #[] e), (x, instObj 66 dx), (dx, lexDict w k1 k2 k3 k4 (.int 1 tl) (.ref st) (.str (PySem.Str.ofString "\n\t\r ") tw) (.ref pb)), (st, instObj 66 dst), (dst, strDict w j1 j2 j3 j4 j5 (.int jln jl) .none (.str jws jw) jpb (.ref f)),
        (f, kla_obj name qual P Bd Sc cl pm c' ctv), (c', oc), (cell, ocell), (sl, listOf (v0 ++ (v1 ++ (v2 ++ (v3 ++ (v4 ++ rest))))).toArray n),
        (x2, instObj 66 dx2), (dx2, lexDict w i1 i2 i3 i4 (.int 1 tl2) (.ref st2) (.str (PySem.Str.ofString "\n\t\r ") tw2) (.ref pb2)), (st2, instObj 66 dst2), (dst2, strDict w g1 g2 g3 g4 g5 (.int gln gl) .none (.str gws gw) gpb (.ref f2)),
        (f2, kla_obj name2 qual2 P2 Bd2 Sc2 cl2 pm2 c' ctv2), (cell2, ocell2), (sl2, listOf #[] n2), (pb2, listOf #[] e2),
        (lm, listOf #[.int (c1.fmod 32) u0, .int (xr (xr (c1.fmod 32) (pw o0)) (pw o1)) u1, .int (xr (xr (c1.fmod 32) (pw o0)) (pw o2)) u2, .int (xr (xr (c1.fmod 32) (pw o0)) (pw o3)) u3] n3),
        (dr, listOf #[.str (tx (spell (c1.fmod 32) look)) t0, .str (tx (spell (xr (xr (c1.fmod 32) (pw o0)) (pw o1)) look)) t1, .str (tx (spell (xr (xr (c1.fmod 32) (pw o0)) (pw o2)) look)) t2,
              .str (tx (spell (xr (xr (c1.fmod 32) (pw o0)) (pw o3)) look)) t3, .str (tx (spell (c2.fmod 32) look)) t4] n4),
        (od, listOf #[.int o0 r0, .int o1 r1, .int o2 r2, .int o3 r3, .int o4 r4] n5), (L + 1 + 1 + 1 + 1, ocd), (L + 1 + 1 + 1, ocm), (L + 1 + 1, oco)])
    (dcd : ocd.data = Data.cell (some (.ref dr))) (dcm : ocm.data = Data.cell (some (.int (c1.fmod 32) tm))) (dco : oco.data = Data.cell (some (.ref od)))
    (hap1 : ApM [x, dx, st, dst, f, c', cell, sl, pb]) (hap2 : ApM [x2, dx2, st2, dst2, f2, c', cell2, sl2, pb2])
    (hapL : ApL [(L + 1 + 1 + 1 + 1 : Nat), (L + 1 + 1 + 1 : Nat), (L + 1 + 1 : Nat), dr, od, lm, x, dx, st, dst, f, cell, sl, pb, 168, x2, dx2, st2, dst2, f2, c', cell2, sl2, pb2])
    (lam1 : Lam w f c' cell sl name qual P Bd Sc cl pm ctv oc ocell) (lam2 : Lam w f2 c' cell2 sl2 name2 qual2 P2 Bd2 Sc2 cl2 pm2 ctv2 oc ocell2)
    (S0 : Sg v0 (wrt (spell (c1.fmod 32) look) y0)) (S1 : Sg v1 (wrt (spell (xr (xr (c1.fmod 32) (pw o0)) (pw o1)) look) y1)) (S2 : Sg v2 (wrt (spell (xr (xr (c1.fmod 32) (pw o0)) (pw o2)) look) y2))
    (S3 : Sg v3 (wrt (spell (xr (xr (c1.fmod 32) (pw o0)) (pw o3)) look) y3)) (S4 : Sg v4 (wrt (spell (c2.fmod 32) look) y4)) (Sr : Sg rest [10, 32])
    (hes : es = [wrt (spell (c1.fmod 32) look) y0, wrt (spell (xr (xr (c1.fmod 32) (pw o0)) (pw o1)) look) y1, wrt (spell (xr (xr (c1.fmod 32) (pw o0)) (pw o2)) look) y2, wrt (spell (xr (xr (c1.fmod 32) (pw o0)) (pw o3)) look) y3, wrt (spell (c2.fmod 32) look) y4].flatten ++ [10, 32])
    (hP : [o0, o1, o2, o3, o4].Perm [0, 1, 2, 3, 4]) (b00 : 0 ≤ o0) (b01 : o0 ≤ 4) (b10 : 0 ≤ o1) (b11 : o1 ≤ 4) (b20 : 0 ≤ o2) (b21 : o2 ≤ 4) (b30 : 0 ≤ o3) (b31 : o3 ≤ 4) (b40 : 0 ≤ o4) (b41 : o4 ≤ 4)
    (hQ : ∀ h' tk' m', Fr g L h' m' → News g L h' [(168, o168)] → Q (.ret (.bool true)) { s with heap := h', toks := tk' }) :
    (hd.heap_19 w.params).In g → wpAny (model PySem.Challenge.rw_sw0028_01.row.prog w) (callerA.deeper (envOfC (PySem.Str.ofString "law") sc L fa cd)) (execs [s0, s1, s2, s3, s4, s5] (envOfC (PySem.Str.ofString "law") sc L fa cd)) Q E { s with heap := hh, toks := tk } := by
  have h2 : lawTail = ([_, _, _, _, _, _], _) := rfl
  have h3 := hst.symm.trans h2
  clear h2 hst
  simp only [Prod.mk.injEq, List.cons.injEq, and_true] at h3
  obtain ⟨⟨e0, e1, e2, e3, e4, e5⟩, e6⟩ := h3
  subst e0 e1 e2 e3 e4 e5 e6
  w_top off
  k_fill
  intro X
  have wa := white_of Sr
  have la0 := sg14 S0
  have la1 := sg14 S1
  have la2 := sg14 S2
  have la3 := sg14 S3
  have la4 := sg14 S4
  have lrest := wa.2.1
  have hl9 := line_law wa.2.2 hes
  repeat' (first | (k_unfold; (try dsimp only)) | (k_end; wrow_close) | walk1 | (dsimp only; walk1) | (dsimp only; k_unfold; (try dsimp only)) | (leave1; walk_say "STEP leave1"; (try dsimp only)) | fail "no step")
  unfold Stop
  k_dflt (
    (refine' spec_at (asked6_spec _ _ _ _ _ _ _ _ _ _ _ _ _ _ _ _ _ _ _ _ _ _ _ _ _ _ _ _ _ _ _ _ _ _ _ _ _ _ _ _ _ _ _ _ _ _ _ _ _ _ _ _ _ _ _ _ _ _ _ _ _ _ _ _ _ _ _ _ _ _ _ _ _ _ _ _ _ ?a ?l ?S0 ?S1 ?S2 ?S3 ?S4 ?z ?hP ?b0 ?b1 ?b2 ?b3 ?b4) ?B ?F ?X ?N ?T ?hf ?hk ?P ?A ?d ?u ?_);
    (case a => (refine' asked_ap ?pm1 ?pm2 ?ph ?pl ?pd; (case pm1 => with_reducible assumption); (case pm2 => with_reducible assumption); (case ph => (refine' ApL.h ?ol; (case ol => with_reducible assumption))); (case pl => tb_rel); (case pd => exact rfl)));
    (case l => with_reducible assumption);
    (case B => k_asm);
    (case F => k_asm);
    (case X => k_asm);
    (case N => k_asm);
    (case T => k_asm);
    (case hf => exact rfl);
    (case hk => exact rfl);
    (case P => (unfold lexL; (try simp only [List.cons_append, List.nil_append]); tb_rel));
    (case A => (unfold lexL; (try simp only [List.cons_append, List.nil_append]); (refine' off_idx ?oh ?oi ?oj ?od; (case oh => (refine' ApL.h ?ol; (case ol => with_reducible assumption))); (case oi => tb_rel); (case oj => tb_rel); (case od => exact rfl))));
    (case S0 => with_reducible assumption);
    (case S1 => with_reducible assumption);
    (case S2 => with_reducible assumption);
    (case S3 => with_reducible assumption);
    (case S4 => with_reducible assumption);
    (case hP => with_reducible assumption);
    (case b0 => exact ⟨by with_reducible assumption, by with_reducible assumption⟩);
    (case b1 => exact ⟨by with_reducible assumption, by with_reducible assumption⟩);
    (case b2 => exact ⟨by with_reducible assumption, by with_reducible assumption⟩);
    (case b3 => exact ⟨by with_reducible assumption, by with_reducible assumption⟩);
    (case b4 => exact ⟨by with_reducible assumption, by with_reducible assumption⟩);
    (case z => (refine' len900 ?y1 ?y2 ?y3 ?y4 ?y5 ?y6; (case y1 => with_reducible assumption); (case y2 => with_reducible assumption); (case y3 => with_reducible assumption); (case y4 => with_reducible assumption); (case y5 => with_reducible assumption); (case y6 => with_reducible assumption)));
    (case d => decide);
    (case u => decide);
    (intro v' n' h' tk' pp');
    (induction pp');
    (rename_i tup' ll' lt' lw' nw' nt' nn2' n9' tl' wt0' wt1' wt2' wt3' wt4' dt0' dt1' dt2' dt3' th' tn' m' h9' m1' m2' m3' d0' d1' d2' d3' ap' e0' e1' e2' e3' e4' s0' s1' s2' s3' s4' r0' r1' r2' r3' hx');
    (intro F' N' a1');
    (have ds' := dists_mk e0' e1' e2' e3' e4' s0' s1' s2' s3' s4' r0' r1' r2' r3');
    (rename ApL _ => kL');
    (simp only [lexL, List.cons_append, List.nil_append] at a1');
    (replace kL' := ApL.mk (apart_asked (B := [_, _, _, _]) a1' ap' (by (simp only [List.map_cons, List.map_nil]; (repeat (refine List.forall_mem_cons.mpr (And.intro (by k_mem) ?_))); exact List.forall_mem_nil _)) kL'.h (by (simp only [List.map_cons, List.map_nil]; (repeat (refine List.forall_mem_cons.mpr (And.intro (by first | exact Or.inl (by k_mem) | exact Or.inr (by k_mem)) ?_))); exact List.forall_mem_nil _))));
    (clear a1');
    (rename White _ ∧ _ ∧ _ => wh');
    (obtain ⟨wa', wb', wc'⟩ := wh');
    (try dsimp only [lexL, List.cons_append, List.nil_append] at N'))
  repeat' (first | (k_unfold; (try dsimp only)) | (k_end; wrow_close) | walk1 | (dsimp only; walk1) | (dsimp only; k_unfold; (try dsimp only)) | (leave1; walk_say "STEP leave1"; (try dsimp only)) | fail "no step")
  unfold Stop
  k_dflt (
    (refine' spec_at (toke_spec _ _ _ _ _ _ _ _ _ _ _ _ _ _ _ _ _ _ _ _ _ _ _ _ _ _ _ _ _ _ _ _ _ _ _ _ _ _ _ _ ?a ?l ?E ?z) ?B ?F ?X ?N ?T ?hf ?hk ?P ?A ?d ?u ?_);
    (case a => (refine' ApM.h ?pa; (case pa => with_reducible assumption)));
    (case l => with_reducible assumption);
    (case B => k_asm);
    (case F => k_asm);
    (case X => k_asm);
    (case N => k_asm);
    (case T => k_asm);
    (case hf => exact rfl);
    (case hk => exact rfl);
    (case P => (unfold lexL; (try simp only [List.cons_append, List.nil_append]); tb_rel));
    (case A => (unfold lexL; (try simp only [List.cons_append, List.nil_append]); (refine' off_idx ?oh ?oi ?oj ?od; (case oh => (refine' ApL.h ?ol; (case ol => with_reducible assumption))); (case oi => tb_rel); (case oj => tb_rel); (case od => exact rfl))));
    (case E => (first | exact White.nil | with_reducible assumption));
    (case z => (first | (simp only [List.length_nil]; decide) | (refine two7 ?z7; (case z7 => with_reducible assumption))));
    (case d => decide);
    (case u => decide);
    (intro v' n' h' tk' pp' F' N' a1');
    (obtain ⟨⟨t', ev'⟩, tl', n9', en'⟩ := pp');
    (subst ev' en');
    (clear a1');
    (try dsimp only [lexL, List.cons_append, List.nil_append] at N'))
  repeat' (first | (k_unfold; (try dsimp only)) | (k_end; wrow_close) | walk1 | (dsimp only; walk1) | (dsimp only; k_unfold; (try dsimp only)) | (leave1; walk_say "STEP leave1"; (try dsimp only)) | fail "no step")
  refine' ⟨_, _, _, fun i v => ∃ t, v = .int ((apart6 (wf (spell (c1.fmod 32) look) (spell (xr (xr (c1.fmod 32) (pw o0)) (pw o1)) look) (spell (xr (xr (c1.fmod 32) (pw o0)) (pw o2)) look) (spell (xr (xr (c1.fmod 32) (pw o0)) (pw o3)) look) (spell (xr (xr (c1.fmod 32) (pw o0)) (pw o3)) look) i) (spell (c2.fmod 32) look) : Nat) : Int) t, rfl, rfl, by k_asm, by k_asm, .inr ⟨_, by k_mem, rfl, _, rfl⟩, Nat.le_of_ble_eq_true rfl, ?turn, ?fin⟩
  case turn =>
    rintro s2' ⟨h2', rfl⟩ i v' I' oI' C' oC' K' oK' D' ys' h' tk' E' Q' hv' hd' F' N' hc'
    obtain ⟨tv', rfl⟩ := four_at hv'
    clear hv'
    dsimp only at hc'
    have lW := wf_len (x0 := c1.fmod 32) (x1 := xr (xr (c1.fmod 32) (pw o0)) (pw o1)) (x2 := xr (xr (c1.fmod 32) (pw o0)) (pw o2)) (x3 := xr (xr (c1.fmod 32) (pw o0)) (pw o3)) (look := look) i
    have lH := spell_length (c2.fmod 32) look
    generalize wf (spell (c1.fmod 32) look) (spell (xr (xr (c1.fmod 32) (pw o0)) (pw o1)) look) (spell (xr (xr (c1.fmod 32) (pw o0)) (pw o2)) look) (spell (xr (xr (c1.fmod 32) (pw o0)) (pw o3)) look) (spell (xr (xr (c1.fmod 32) (pw o0)) (pw o3)) look) i = W at *
    repeat' (first | (k_unfold; (try dsimp only)) | (k_end; wrow_close) | walk1 | (dsimp only; walk1) | (dsimp only; k_unfold; (try dsimp only)) | (leave1; walk_say "STEP leave1"; (try dsimp only)) | fail "no step")
    unfold Stop
    refine LCt.CompSrcT.range (by rfl) (by k_asm) (by k_asm) (by assumption) (by first | decide | rfl) (by first | rfl | decide) (by first | size_fits | exact Nat.le_of_ble_eq_true rfl) ?_
    intro g'
    refine rest_count (n := 6) (fun j => tx [at' W j] != tx [at' (spell (c2.fmod 32) look) j]) ?t ?it ?fn
    case t =>
      intro j t9' I2' oI2' C2' oC2' D2' m2' ys2' h2' tk2' E2' Q2' hj' hC2' hx2' F2' N2' off2' ne2' hq'
      repeat' (first | (k_unfold; (try dsimp only)) | (k_end; wrow_close) | walk1 | (dsimp only; walk1) | (dsimp only; k_unfold; (try dsimp only)) | (leave1; walk_say "STEP leave1"; (try dsimp only)) | fail "no step")
      exact hq' _
    case it =>
      intro j t9' I2' oI2' C2' oC2' D2' m2' ys2' h2' tk2' E2' Q2' hj' hC2' hx2' F2' N2' off2' ne2' hq'
      repeat' (first | (k_unfold; (try dsimp only)) | (k_end; wrow_close) | walk1 | (dsimp only; walk1) | (dsimp only; k_unfold; (try dsimp only)) | (leave1; walk_say "STEP leave1"; (try dsimp only)) | fail "no step")
      exact hq' _ _
    case fn =>
      intro ys2' hl2'
      unfold LCg.FinE
      intro D3' h3' tk3' F3' N3' o3'
      repeat' (first | (k_unfold; (try dsimp only)) | (k_end; wrow_close) | walk1 | (dsimp only; walk1) | (dsimp only; k_unfold; (try dsimp only)) | (leave1; walk_say "STEP leave1"; (try dsimp only)) | fail "no step")
      exact hc' _ _ _ ⟨_, rfl⟩ (by k_asm) (News.sub (by k_asm) (by lcg_sub))
  case fin =>
    intro D' ys' h' tk' hl' hY' F' N' o1'
    rename DistsL _ _ _ _ _ _ _ _ _ => ds'
    obtain ⟨t0', t1', t2', t3', ey'⟩ := due_is ds' hl' hY'
    subst ey'
    clear hY' hl'
    repeat' (first | (k_unfold; (try dsimp only)) | (k_end; wrow_close) | walk1 | (dsimp only; walk1) | (dsimp only; k_unfold; (try dsimp only)) | (leave1; walk_say "STEP leave1"; (try dsimp only)) | fail "no step")
    unfold Stop
    refine rest_none (.inr ⟨_, by k_mem, rfl, _, rfl⟩) ?nt ?nf
    case nt =>
      intro i v I2' oI2' C2' oC2' D2' m2' ys2' h2' tk2' E2' Q2' hv2' hC2' hx2' F2' N2' off2' ne2' hq'
      obtain ⟨j2', t2', rfl⟩ := four_i hv2'
      clear hv2'
      repeat' (first | (k_unfold; (try dsimp only)) | (k_end; wrow_close) | walk1 | (dsimp only; walk1) | (dsimp only; k_unfold; (try dsimp only)) | (leave1; walk_say "STEP leave1"; (try dsimp only)) | fail "no step")
      exact hq' _
    case nf =>
    repeat' (first | (k_unfold; (try dsimp only)) | (k_end; wrow_close) | walk1 | (dsimp only; walk1) | (dsimp only; k_unfold; (try dsimp only)) | (leave1; walk_say "STEP leave1"; (try dsimp only)) | fail "no step")
    unfold Stop
    k_dflt (
      (refine' spec_at (toke_spec _ _ _ _ _ _ _ _ _ _ _ _ _ _ _ _ _ _ _ _ _ _ _ _ _ _ _ _ _ _ _ _ _ _ _ _ _ _ _ _ ?a ?l ?E ?z) ?B ?F ?X ?N ?T ?hf ?hk ?P ?A ?d ?u ?_);
      (case a => (refine' ApM.h ?pa; (case pa => with_reducible assumption)));
      (case l => with_reducible assumption);
      (case B => k_asm);
      (case F => k_asm);
      (case X => k_asm);
      (case N => k_asm);
      (case T => k_asm);
      (case hf => exact rfl);
      (case hk => exact rfl);
      (case P => (unfold lexL; (try simp only [List.cons_append, List.nil_append]); tb_rel));
      (case A => (unfold lexL; (try simp only [List.cons_append, List.nil_append]); (refine' off_idx ?oh ?oi ?oj ?od; (case oh => (refine' ApL.h ?ol; (case ol => with_reducible assumption))); (case oi => tb_rel); (case oj => tb_rel); (case od => exact rfl))));
      (case E => (first | exact White.nil | with_reducible assumption));
      (case z => (first | (simp only [List.length_nil]; decide) | (refine two7 ?z7; (case z7 => with_reducible assumption))));
      (case d => decide);
      (case u => decide);
      (intro v' n' h' tk' pp' F' N' a1');
      (obtain ⟨⟨t', ev'⟩, tl', n9', en'⟩ := pp');
      (subst ev' en');
      (clear a1');
      (try dsimp only [lexL, List.cons_append, List.nil_append] at N'))
    repeat' (first | (k_unfold; (try dsimp only)) | (k_end; wrow_close) | walk1 | (dsimp only; walk1) | (dsimp only; k_unfold; (try dsimp only)) | (leave1; walk_say "STEP leave1"; (try dsimp only)) | fail "no step")
    unfold Stop
    k_dflt (
      (refine' spec_at (odd_spec _ _ _ _ _ _ _ _ _ _ _ _ _ _ _ _ _ _ _ _ _ _ _ ?ne ?l0 ?l1 ?l2 ?l3 ?l4 ?m0 ?m1 ?m2 ?m3 ?m4) ?B ?F ?X ?N ?T ?hf ?hk ?P ?A ?d ?u ?_);
      (case B => k_asm);
      (case F => k_asm);
      (case X => k_asm);
      (case N => k_asm);
      (case T => k_asm);
      (case hf => exact rfl);
      (case hk => exact rfl);
      (case P => tb_rel);
      (case A => (refine' off_idx ?oh ?oi ?oj ?od; (case oh => (refine' ApL.h ?ol; (case ol => with_reducible assumption))); (case oi => tb_rel); (case oj => tb_rel); (case od => exact rfl)));
      (case l0 => with_reducible assumption);
      (case l1 => with_reducible assumption);
      (case l2 => with_reducible assumption);
      (case l3 => with_reducible assumption);
      (case l4 => with_reducible assumption);
      (case m0 => with_reducible assumption);
      (case m1 => with_reducible assumption);
      (case m2 => with_reducible assumption);
      (case m3 => with_reducible assumption);
      (case m4 => with_reducible assumption);
      (case ne => k_ne);
      (case d => decide);
      (case u => decide);
      (intro v' n' h' tk' pp' F' N' a1');
      (obtain ⟨en', t', ev'⟩ := pp');
      (subst ev' en');
      (clear a1');
      (try dsimp only [lexL, List.cons_append, List.nil_append] at N'))
    repeat' (first | (k_unfold; (try dsimp only)) | (k_end; wrow_close) | walk1 | (dsimp only; walk1) | (dsimp only; k_unfold; (try dsimp only)) | (leave1; walk_say "STEP leave1"; (try dsimp only)) | fail "no step")
    exact hQ _ _ _ (by k_asm) (News.sub (by k_asm) (by lcg_sub))

end

section
theorem law_tail_on {s0 s1 s2 s3 s4 s5 : Stmt} {sc : Scope} (hst : lawTail = ([s0, s1, s2, s3, s4, s5], sc)) (w : World) {mean : ExcName → Option Value} {mg mb : PySem.Str → Option Value} {p : Program} {loose : List PySem.Str}
    {base g hh : Heap} {L fa : Addr} {cd : Value} {m : PySem.Str → Option Value} {tk : Nat} {s : Shared} {Q : Flow → Shared → Prop} {E : Value → Shared → Prop}
    {x dx st dst f c' cell sl pb x2 dx2 st2 dst2 f2 cell2 sl2 pb2 lm dr od : Addr} {k1 k2 k3 k4 j1 j2 j3 j4 j5 tw jl jw tl i1 i2 i3 i4 g1 g2 g3 g4 g5 tw2 gl gw tl2 : Tok} {jln gln : Int} {jws gws : PySem.Str} {jpb gpb : Value}
    {name qual name2 qual2 : PySem.Str} {P P2 : Arguments} {Bd Bd2 : PySem.Expr} {Sc Sc2 : Scope} {cl cl2 : List (PySem.Str × Addr)} {pm ctv pm2 ctv2 : Value} {oc ocell ocell2 o168 ocd ocm oco : Obj} {n e n2 e2 n3 n4 n5 : Nat}
    {c1 c2 o0 o1 o2 o3 o4 look y0 y1 y2 y3 y4 : Int} {v0 v1 v2 v3 v4 rest : List Value} {u0 u1 u2 u3 r0 r1 r2 r3 r4 t0 t1 t2 t3 t4 te tm th : Tok} {es : List Nat}
    {m0 : PySem.Str → Option Value} {news others nw1 rs1 nw2 rs2 : List (Addr × Obj)}
    (B : Below callerA base [] g) (T : Top p loose mean mg mb g)
    (F0 : Fr g L hh m0) (N0 : News g L hh news) (h1 : Apart [168, x, dx, st, dst, f, c', cell, sl, pb]) (h2 : ApB [168, x2, dx2, st2, dst2, f2, c', cell2, sl2, pb2])
    (hm : Tells m0 [("line", .ref x2), ("lexer", .ref x), ("signs", .ref sl), ("text", .str (tx es) te), ("marks", .ref lm), ("hidden", .int (c2.fmod 32) th)])
    (hP : [o0, o1, o2, o3, o4].Perm [0, 1, 2, 3, 4])
    (pk : Pick [(168, o168), (pb, listOf #[] e), (x, instObj 66 dx), (dx, lexDict w k1 k2 k3 k4 (.int 1 tl) (.ref st) (.str (PySem.Str.ofString "\n\t\r ") tw) (.ref pb)), (st, instObj 66 dst), (dst, strDict w j1 j2 j3 j4 j5 (.int jln jl) .none (.str jws jw) jpb (.ref f)),
        (f, kla_obj name qual P Bd Sc cl pm c' ctv), (c', oc), (cell, ocell), (sl, listOf (v0 ++ (v1 ++ (v2 ++ (v3 ++ (v4 ++ rest))))).toArray n),
        (x2, instObj 66 dx2), (dx2, lexDict w i1 i2 i3 i4 (.int 1 tl2) (.ref st2) (.str (PySem.Str.ofString "\n\t\r ") tw2) (.ref pb2)), (st2, instObj 66 dst2), (dst2, strDict w g1 g2 g3 g4 g5 (.int gln gl) .none (.str gws gw) gpb (.ref f2)),
        (f2, kla_obj name2 qual2 P2 Bd2 Sc2 cl2 pm2 c' ctv2), (cell2, ocell2), (sl2, listOf #[] n2), (pb2, listOf #[] e2),
        (lm, listOf #[.int (c1.fmod 32) u0, .int (xr (xr (c1.fmod 32) (pw o0)) (pw o1)) u1, .int (xr (xr (c1.fmod 32) (pw o0)) (pw o2)) u2, .int (xr (xr (c1.fmod 32) (pw o0)) (pw o3)) u3] n3),
        (dr, listOf #[.str (tx (spell (c1.fmod 32) look)) t0, .str (tx (spell (xr (xr (c1.fmod 32) (pw o0)) (pw o1)) look)) t1, .str (tx (spell (xr (xr (c1.fmod 32) (pw o0)) (pw o2)) look)) t2,
              .str (tx (spell (xr (xr (c1.fmod 32) (pw o0)) (pw o3)) look)) t3, .str (tx (spell (c2.fmod 32) look)) t4] n4),
        (od, listOf #[.int o0 r0, .int o1 r1, .int o2 r2, .int o3 r3, .int o4 r4] n5), (L + 1 + 1 + 1 + 1, ocd), (L + 1 + 1 + 1, ocm), (L + 1 + 1, oco)] news others)
    (dcd : ocd.data = Data.cell (some (.ref dr))) (dcm : ocm.data = Data.cell (some (.int (c1.fmod 32) tm))) (dco : oco.data = Data.cell (some (.ref od)))
    (na : Apart [(L + 1 + 1 + 1 + 1 : Nat), (L + 1 + 1 + 1 : Nat), (L + 1 + 1 : Nat), dr, od, lm])
    (a2 : ∀ q ∈ nw2, LCg.Off1 q.1 rs2) (sB2 : ∀ b ∈ [(168 : Nat), x2, dx2, st2, dst2, f2, c', cell2, sl2, pb2], b ∈ nw2.map (·.1)) (sA2 : ∀ a ∈ [(L + 1 + 1 + 1 + 1 : Nat), (L + 1 + 1 + 1 : Nat), (L + 1 + 1 : Nat), dr, od, lm, x, dx, st, dst, f, cell, sl, pb], a ∈ rs2.map (·.1))
    (a1 : ∀ q ∈ nw1, LCg.Off1 q.1 rs1) (sB1 : ∀ b ∈ [x, dx, st, dst, f, cell, sl, pb], b ∈ nw1.map (·.1)) (sA1 : ∀ a ∈ [(L + 1 + 1 + 1 + 1 : Nat), (L + 1 + 1 + 1 : Nat), (L + 1 + 1 : Nat), dr, od, lm], a ∈ rs1.map (·.1))
    (lam1 : Lam w f c' cell sl name qual P Bd Sc cl pm ctv oc ocell) (lam2 : Lam w f2 c' cell2 sl2 name2 qual2 P2 Bd2 Sc2 cl2 pm2 ctv2 oc ocell2)
    (S0 : Sg v0 (wrt (spell (c1.fmod 32) look) y0)) (S1 : Sg v1 (wrt (spell (xr (xr (c1.fmod 32) (pw o0)) (pw o1)) look) y1)) (S2 : Sg v2 (wrt (spell (xr (xr (c1.fmod 32) (pw o0)) (pw o2)) look) y2))
    (S3 : Sg v3 (wrt (spell (xr (xr (c1.fmod 32) (pw o0)) (pw o3)) look) y3)) (S4 : Sg v4 (wrt (spell (c2.fmod 32) look) y4)) (Sr : Sg rest [10, 32])
    (hes : es = [wrt (spell (c1.fmod 32) look) y0, wrt (spell (xr (xr (c1.fmod 32) (pw o0)) (pw o1)) look) y1, wrt (spell (xr (xr (c1.fmod 32) (pw o0)) (pw o2)) look) y2, wrt (spell (xr (xr (c1.fmod 32) (pw o0)) (pw o3)) look) y3, wrt (spell (c2.fmod 32) look) y4].flatten ++ [10, 32])
    (b00 : 0 ≤ o0) (b01 : o0 ≤ 4) (b10 : 0 ≤ o1) (b11 : o1 ≤ 4) (b20 : 0 ≤ o2) (b21 : o2 ≤ 4) (b30 : 0 ≤ o3) (b31 : o3 ≤ 4) (b40 : 0 ≤ o4) (b41 : o4 ≤ 4)
    (hQ : ∀ h' tk' m', Fr g L h' m' → News g L h' [(168, o168)] → Q (.ret (.bool true)) { s with heap := h', toks := tk' }) :
    (hd.heap_19 w.params).In g → wpAny (model PySem.Challenge.rw_sw0028_01.row.prog w) (callerA.deeper (envOfC (PySem.Str.ofString "law") sc L fa cd)) (execs [s0, s1, s2, s3, s4, s5] (envOfC (PySem.Str.ofString "law") sc L fa cd)) Q E { s with heap := hh, toks := tk } :=
  law_tail hst w B T (Fr.front F0 _ hm) (fun q hq => N0 q (pk.sub.1 q hq)) dcd dcm dco ⟨h1.2⟩ ⟨h2.h.2⟩ ⟨apart_call (A := [(L + 1 + 1 + 1 + 1 : Nat), (L + 1 + 1 + 1 : Nat), (L + 1 + 1 : Nat), dr, od, lm, x, dx, st, dst, f, cell, sl, pb]) a2 h2.h sB2 (apart_call (A := [(L + 1 + 1 + 1 + 1 : Nat), (L + 1 + 1 + 1 : Nat), (L + 1 + 1 : Nat), dr, od, lm]) a1 (ap8 h1) sB1 na sA1) sA2⟩ lam1 lam2 S0 S1 S2 S3 S4 Sr hes hP b00 b01 b10 b11 b20 b21 b30 b31 b40 b41 hQ

end

section
theorem words_law : True := by
  k_with_none
  k_with "k_room" => (first | decide | ((try simp only [depth_under_make, depth_under_kw, depth_in1, depth_deeper, depth_caller]); lia))
  k_with "eval ListComp" => ((k_here; k_dflt (refine LCg.ListComp_U (F₀ := by k_asm) (by with_unfolding_all rfl) (by decide) (by rfl) (by decide) (by rfl) ?_); k_dflt lcg_toSrc))
  k_with "exec Assign cons ListComp" => ((k_here; k_dflt (refine LCg.Assign_ListComp_U (F₀ := by k_asm) (by rfl) (by with_unfolding_all rfl) (by with_unfolding_all rfl) (by decide) (by rfl) (by decide) (by rfl) (by rfl) (by rfl) ?_); k_dflt lcg_toSrc))
  k_with "CompSrc" => ((k_here; k_dflt (first | (refine LCg.CompSrc.ledger (by rfl) (by k_asm) (by k_asm) (by k_mem) (by first | exact Nat.le_of_ble_eq_true rfl | size_fits) ?_; intro g'; lcg_lit) | (refine LCg.CompSrc.range (by rfl) (by k_asm) (by k_asm) (by assumption) (by first | decide | rfl) (by first | rfl | decide) (by first | exact Nat.le_of_ble_eq_true rfl | size_fits) ?_; intro g'; lcg_lit))))
  k_with "binaryOp Pow int int" => ((k_here; with_reducible refine pow_pw ?kb1 ?kb2 ?_; (case kb1 => assumption); (case kb2 => assumption)))
  k_with "binaryOp Mult int int" => ((k_here; with_reducible refine mul_pw ?kb1 ?kb2 ?_; (case kb1 => assumption); (case kb2 => assumption)))
  k_with "binaryOp BitXor int int" => ((k_here; with_reducible refine xor_xr ?_))
  k_with "CompRest" => ((with_unfolding_all first | (refine LCg.CompRest.succ ?_; intro v' I' oI' C' oC' D' m' h' tk' E' hv' hC' hx' F' N' off' ne'; (first | lcg_open hv' | (obtain ⟨t9', hv9'⟩ := hv'; subst hv9')); (obtain ⟨neIC', neID', neCD'⟩ := ne')) | refine LCg.CompRest.zero ?_))
  k_with "lcg_off" => (with_reducible assumption)
  k_with "CompEnd" => (lcg_end)
  k_with "eval Name" => ((k_here; k_dflt (first
  | (refine' nameX_L ?F ?v ?_ ?a ?b; (case F => k_asm); (case a => rfl); (case b => rfl); (case v => rfl); k_whole)
  | (refine' nameX_C ?N ?c ?m ?d ?_ ?a ?b; (case a => rfl); (case b => rfl); (case N => k_asm); (case c => rfl); (case m => k_mem); (case d => k_asm); k_whole)
  | (refine' nameX_K ?F ?X ?T ?e ?_ ?a ?b; (case F => k_asm); (case X => k_asm); (case T => k_asm); (case a => rfl); (case b => rfl); (case e => k_is); k_whole))))
  k_with "eval Name" => ((k_here; (with_reducible show wpAny _ _ (eval (PySem.Expr.Name _ _) (compEnvC _ _ _ _)) _ _ _); k_dflt (first
  | (refine LCgL.ld_own (by k_asm) (by k_mem) (by assumption) (by assumption) ?_)
  | (refine' lcf_cell ?N ?c ?m ?d ?_ ?a ?b; (case a => rfl); (case b => rfl); (case N => k_asm); (case c => rfl); (case m => k_mem); (case d => k_asm); k_whole)
  | (refine' lcf_free ?N ?c ?m ?d ?_ ?a ?b; (case a => rfl); (case b => rfl); (case N => k_asm); (case c => rfl); (case m => k_mem); (case d => k_asm); k_whole)
  | (refine LCgL.ld_global (by k_asm) (by k_asm) (by k_asm) (by k_is) ?_))))
  k_with "FinE" => (((unfold LCg.FinE); intro D' h' tk' F' N' oq9'; (try simp only [List.nil_append, List.cons_append] at N'); (try dsimp only)))
  k_with "FinA" => (((unfold LCg.FinA); intro D' h' tk' F' N' oq9'; (try simp only [List.nil_append, List.cons_append] at N'); (try dsimp only)))
  k_with "k_ne" => (((try dsimp only); first
  | (with_reducible assumption)
  | (with_reducible exact Ne.symm (by assumption))
  | (refine' off1_ne ?nh ?nm; (case nh => with_reducible assumption); (case nm => k_mem))
  | (refine' off1_ne' ?nh ?nm; (case nh => with_reducible assumption); (case nm => k_mem))
  | (refine' off3_I ?nh ?nm; (case nh => with_reducible assumption); (case nm => k_mem))
  | (refine' off3_C ?nh ?nm; (case nh => with_reducible assumption); (case nm => k_mem))
  | (refine' off3_D ?nh ?nm; (case nh => with_reducible assumption); (case nm => k_mem))
  | (refine' off3_I' ?nh ?nm; (case nh => with_reducible assumption); (case nm => k_mem))
  | (refine' off3_C' ?nh ?nm; (case nh => with_reducible assumption); (case nm => k_mem))
  | (refine' off3_D' ?nh ?nm; (case nh => with_reducible assumption); (case nm => k_mem))
  | (refine' two_ne ?nh ?nm; (case nh => with_reducible assumption); (case nm => tb_start))
  | (refine' two_ne' ?nh ?nm; (case nh => with_reducible assumption); (case nm => tb_start))
  | (refine neN ?_; lia)))
  k_with "tb_start" => (first | (refine' Two.head ?th; (case th => k_mem)) | (refine' Two.tail ?tw; (case tw => tb_start)))
  k_with "call builtin:list.append" => ((k_here; (with_reducible show wpAny _ _ (PySem.call (Value.builtin _) [Value.ref _, _]) _ _ _); k_dflt (refine append_lit (by k_asm) (by k_asm) (by kl_lit) (by k_upd) (by kl_room) ?_); kl_rest))
  k_with "subscriptTail" => ((k_here; (with_reducible show wpAny _ _ (subscriptTail _ _ (Value.ref _) (Value.int _ _)) _ _ _); k_dflt (refine item_N (by k_asm) (by k_mem) (by decide) (by decide) rfl ?_ (by with_unfolding_all rfl))))
  k_with "subscriptTail Name Name ref int" => ((walk_at "subscriptTail"))
  k_with "subscriptTail Name Constant ref int" => ((walk_at "subscriptTail"))
  k_with "getItem ref int" => ((k_here; k_dflt (refine getItem_N (by k_asm) (by k_mem) (by decide) (by decide) rfl ?_)))
  k_with "getMethod ref" => ((k_here; (with_reducible show wpAny _ _ (getMethod (Value.ref _) (PySem.Str.ofString "read") _) _ _ _); k_dflt (refine kmu_own (by k_asm) (by k_asm) (by k_inst) (by k_is) (by k_is) ?_)))
  k_with "And" => (((with_reducible show FnAt _ _ ∧ _); refine ⟨FnAt.of (by k_asm) (by k_mem), ?_⟩; (try dsimp only [List.nil_append, List.cons_append])))
  k_with "k_mem" => (first | exact List.Mem.head _ | exact mem1 | exact mem2 | exact mem3 | exact mem4 | exact mem5 | exact mem6 | exact mem7 | (refine' mem8 ?_; k_mem))
  k_with "lcg_sub" => (first | exact sub_nil | (refine sub_cons (by k_mem) ?_; lcg_sub))
  k_with "kpt_turns" => (first | exact Take.head | exact tk1 | exact tk2 | exact tk3 | (refine' tk4 ?tk; (case tk => kpt_turns)))
  k_with "tb_rel" => (first | exact Pick.nil | (refine' Pick.cons ?pt ?pk; (case pt => kpt_turns); (case pk => tb_rel)))
  k_with "ktm_same2" => (first | exact True.intro | (refine off1_cons (by k_ne) ?_; ktm_same2))
  k_with "ktr_rel" => (first | exact True.intro | (refine And.intro (by ktm_same2) ?_; ktr_rel))
  k_with "ktr_room" => (first | decide | ((try simp only [depth_under_make, depth_under_kw, depth_in1, depth_deeper, depth_caller] at *); lia))
  k_with "truthy ref" => ((k_here; (with_reducible show wpAny _ _ (truthy (Value.ref _)) _ _ _); k_dflt (first
  | (refine truthy_cons (by k_asm) (by k_mem) (by with_reducible assumption) ?_)
  | (refine truthy_nil (by k_asm) (by k_mem) ?_))))
  k_with "call builtin:list.pop" => ((k_here; (with_reducible show wpAny _ _ (PySem.call (Value.builtin _) [Value.ref _, Value.int 0 _]) _ _ _); k_dflt (refine pop0_cons (by k_asm) (by k_asm) (by k_upd) (by with_reducible assumption) ?_); kl_rest))
  k_with "execs cons" => ((k_here; k_fold))
  exact True.intro

local macro_rules | `(tactic| k_lt $h:ident) => `(tactic| ((have offK' := off1_of (fun r hr => Nat.ne_of_lt ($h r hr))); replace $h := allLt_of $h; simp only [AllLt, and_true] at $h:ident))
theorem words1_law : True := by
  k_with "call ref" => ((k_here; k_dflt (first | refine use1 (spelled_spec _ _ _ _ _) ?_ | refine use1 (written2_spec _ _ (by with_reducible assumption) _ _ _) ?_ | refine lexer_at ?_ | refine lexer2_at ?_); intros))
  k_with "call ref" => ((k_here; (with_reducible show wpAny _ _ (PySem.call (Value.ref 154) _) _ _ _); (refine Stop.go ?_)))
  k_with "CompRest" => ((k_here; (first | with_reducible show LCg.CompRest _ _ _ _ _ _ _ _ _ _ _ _ _ _ _ 3 0 [] _ | with_reducible show LCg.CompRest _ _ _ _ _ _ _ _ _ _ _ _ _ _ _ 5 0 [] _); (refine Stop.go ?_)))
  k_with "subscriptTail Name Name ref int" => ((k_here; (with_reducible show wpAny _ _ (subscriptTail _ _ _ (Value.int (Nat.cast _) _)) _ _ _); (rename List.Perm _ _ => hPm'); k_dflt (first | refine get_five ?_ | refine get_fiveS ?_); intros))
  k_with "binaryOp Pow int int" => ((k_here; with_reducible refine pow_p3 ?_))
  k_with "binaryOp FloorDiv int int" => ((k_here; with_reducible refine div_p3 ?_))
  k_with "call builtin:str.join" => ((k_here; k_dflt (refine join_five ?_); intros))
  k_with "binaryOp Add str str" => ((k_here; k_dflt (refine end_five ?_); intros))
  k_with "call type:list" => ((k_here; (with_reducible show wpAny _ _ (PySem.call (Value.type "list") [Value.str _ _]) _ _ _); k_dflt (refine list_five ?_); intros))
  k_with "execs cons" => ((k_here; (with_reducible show wpAny _ _ (execs [Stmt.Assign [PySem.Expr.Tuple _ _ _] _ _, _, _, _, _, _] _) _ _ _); (refine Stop.go ?_)))
  k_with "kst_p" => (((try dsimp only); (refine cells_set (by assumption) (by assumption) (Int.add_nonneg (getD_nonneg (by assumption) _) (Int.fmod_nonneg_of_pos _ (by decide))))))
  exact True.intro

set_option maxHeartbeats 8000000 in
theorem law_holds : PySem.Challenge.rw_sw0028_01.Holds := hd (by
  w_top off
  (k_with "pyIter ref" => k_state (fun pre cells => cells.length = 5 ∧ ∀ x ∈ cells, (0:Int) ≤ x) "cells")
  k_go0
  (all_goals try k_fold)
  repeat' (first | (k_unfold; (try dsimp only)) | (k_end; wrow_close) | walk1 | (dsimp only; walk1) | (dsimp only; k_unfold; (try dsimp only)) | (leave1; walk_say "STEP leave1"; (try dsimp only)) | fail "no step")
  unfold Stop
  k_dflt (refine order_at (getD_nonneg (by assumption) _) ?_)
  intro l' e' o0' o1' o2' o3' o4' t0' t1' t2' t3' t4' h' tk' hP' a0' b0' a1' b1' a2' b2' a3' b3' a4' b4' F' N' z'
  repeat' (first | (k_unfold; (try dsimp only)) | (k_end; wrow_close) | walk1 | (dsimp only; walk1) | (dsimp only; k_unfold; (try dsimp only)) | (leave1; walk_say "STEP leave1"; (try dsimp only)) | fail "no step")
  unfold Stop
  rename List Int => cs'
  (try dsimp only)
  refine rest_all (fun i v => ∃ t, v = Value.int (xr (xr ((cs'.getD (Int.toNat 1) 0).fmod 32) (pw o0')) (pw (w5 o0' o1' o2' o3' o4' (i + 1)))) t) trivial ?turn ?fin
  case turn =>
    intro i v I' oI' C' oC' D' m2' ys' h' tk' E' Q' hi' hv' hC' hx' F' N' off' ne' hc'
    obtain ⟨t9', rfl⟩ := hv'
    rw [show (1 + (i : Int)) = ((i + 1 : Nat) : Int) by lia] at hx'
    (try dsimp only at hc')
    repeat' (first | (k_unfold; (try dsimp only)) | (k_end; wrow_close) | walk1 | (dsimp only; walk1) | (dsimp only; k_unfold; (try dsimp only)) | (leave1; walk_say "STEP leave1"; (try dsimp only)) | fail "no step")
    exact hc' _ _ _ ⟨_, rfl⟩ (by k_asm) (News.sub (by k_asm) (by lcg_sub))
  case fin =>
  intro ys' hl' hy'
  obtain ⟨t7', t8', t9', ey'⟩ := three_ex hl' hy'
  subst ey'
  clear hl' hy'
  dsimp only [w5]
  repeat' (first | (k_unfold; (try dsimp only)) | (k_end; wrow_close) | walk1 | (dsimp only; walk1) | (dsimp only; k_unfold; (try dsimp only)) | (leave1; walk_say "STEP leave1"; (try dsimp only)) | fail "no step")
  unfold Stop
  (try dsimp only)
  refine rest_all (fun i v => ∃ t, v = Value.str (tx (spell (w5 ((cs'.getD (Int.toNat 1) 0).fmod 32) (xr (xr ((cs'.getD (Int.toNat 1) 0).fmod 32) (pw o0')) (pw o1')) (xr (xr ((cs'.getD (Int.toNat 1) 0).fmod 32) (pw o0')) (pw o2')) (xr (xr ((cs'.getD (Int.toNat 1) 0).fmod 32) (pw o0')) (pw o3')) ((cs'.getD (Int.toNat 2) 0).fmod 32) i) (cs'.getD (Int.toNat 3) 0))) t) (.inr ⟨_, by k_mem, rfl, _, rfl⟩) ?turn ?fin
  case turn =>
    intro i v I' oI' C' oC' D' m2' ys' h' tk' E' Q' hi' hv' hC' hx' F' N' off' ne' hc'
    obtain ⟨t9', rfl⟩ := five_ints hi' hv'
    clear hv'
    (try dsimp only at hc')
    repeat' (first | (k_unfold; (try dsimp only)) | (k_end; wrow_close) | walk1 | (dsimp only; walk1) | (dsimp only; k_unfold; (try dsimp only)) | (leave1; walk_say "STEP leave1"; (try dsimp only)) | fail "no step")
    exact hc' _ _ _ ⟨_, rfl⟩ (by k_asm) (News.sub (by k_asm) (by lcg_sub))
  case fin =>
  intro ys' hl' hy'
  obtain ⟨u0', u1', u2', u3', u4', ey'⟩ := five_ex hl' hy'
  subst ey'
  clear hl' hy'
  dsimp only [w5]
  repeat' (first | (k_unfold; (try dsimp only)) | (k_end; wrow_close) | walk1 | (dsimp only; walk1) | (dsimp only; k_unfold; (try dsimp only)) | (leave1; walk_say "STEP leave1"; (try dsimp only)) | fail "no step")
  unfold Stop
  (try dsimp only)
  refine rest_all (fun i v => ∃ t, v = Value.str (tx (wrt (w5 (spell (((cs'.getD (Int.toNat 1) 0).fmod 32)) (cs'.getD (Int.toNat 3) 0)) (spell ((xr (xr ((cs'.getD (Int.toNat 1) 0).fmod 32) (pw o0')) (pw o1'))) (cs'.getD (Int.toNat 3) 0)) (spell ((xr (xr ((cs'.getD (Int.toNat 1) 0).fmod 32) (pw o0')) (pw o2'))) (cs'.getD (Int.toNat 3) 0)) (spell ((xr (xr ((cs'.getD (Int.toNat 1) 0).fmod 32) (pw o0')) (pw o3'))) (cs'.getD (Int.toNat 3) 0)) (spell (((cs'.getD (Int.toNat 2) 0).fmod 32)) (cs'.getD (Int.toNat 3) 0)) i) ((cs'.getD (Int.toNat 4) 0).fdiv (p3 i)))) t) trivial ?turn ?fin
  case turn =>
    intro i v I' oI' C' oC' D' m2' ys' h' tk' E' Q' hi' hv' hC' hx' F' N' off' ne' hc'
    obtain ⟨t9', rfl⟩ := hv'
    rw [show (0 + (i : Int)) = ((i : Nat) : Int) by lia] at hx'
    (try dsimp only at hc')
    repeat' (first | (k_unfold; (try dsimp only)) | (k_end; wrow_close) | walk1 | (dsimp only; walk1) | (dsimp only; k_unfold; (try dsimp only)) | (leave1; walk_say "STEP leave1"; (try dsimp only)) | fail "no step")
    exact hc' _ _ _ ⟨_, rfl⟩ (by k_asm) (News.sub (by k_asm) (by lcg_sub))
  case fin =>
  intro ys' hl' hy'
  obtain ⟨u5', u6', u7', u8', u9', ey'⟩ := five_ex hl' hy'
  subst ey'
  clear hl' hy'
  dsimp only [w5]
  repeat' (first | (k_unfold; (try dsimp only)) | (k_end; wrow_close) | walk1 | (dsimp only; walk1) | (dsimp only; k_unfold; (try dsimp only)) | (leave1; walk_say "STEP leave1"; (try dsimp only)) | fail "no step")
  unfold Stop
  rename Shared => sX'
  revert sX'
  intros
  k_here
  rename ∀ q ∈ _, LCg.Off1 (Prod.fst q) _ => qb2'
  revert qb2'
  rename ∀ q ∈ _, LCg.Off1 (Prod.fst q) _ => qb1'
  intro qb2'
  refine' law_tail_on ?hst _ ?B ?T ?F0 ?N0 ?h1 ?h2 ?hm ?hP ?pk ?dcd ?dcm ?dco ?na ?a2 ?sB2 ?sA2 ?a1 ?sB1 ?sA1 ?lam1 ?lam2 ?S0 ?S1 ?S2 ?S3 ?S4 ?Sr ?hes ?q0 ?q1 ?q2 ?q3 ?q4 ?q5 ?q6 ?q7 ?q8 ?q9 ?hQ ?X
  case hst => exact rfl
  case B => k_asm
  case T => k_asm
  case F0 => k_asm
  case N0 => k_asm
  case h1 => with_reducible assumption
  case h2 => with_reducible assumption
  case X => k_asm
  case hm => exact ⟨rfl, rfl, rfl, rfl, rfl, rfl, trivial⟩
  case hP => with_reducible assumption
  case lam1 => with_reducible assumption
  case lam2 => with_reducible assumption
  case pk => tb_rel
  case dcd => with_reducible assumption
  case dcm => with_reducible assumption
  case dco => with_reducible assumption
  case S0 => k_asm
  case S1 => k_asm
  case S2 => k_asm
  case S3 => k_asm
  case S4 => k_asm
  case Sr => k_asm
  case hes => exact rfl
  case a2 => exact qb2'
  case a1 => exact qb1'
  case sB2 => ((simp only [List.map_cons, List.map_nil]); (iterate 10 (refine List.forall_mem_cons.mpr (And.intro (by (repeat (first | exact List.Mem.head _ | refine List.Mem.tail _ ?_))) ?_))); exact List.forall_mem_nil _)
  case sA2 => ((simp only [List.map_cons, List.map_nil]); (iterate 14 (refine List.forall_mem_cons.mpr (And.intro (by (repeat (first | exact List.Mem.head _ | refine List.Mem.tail _ ?_))) ?_))); exact List.forall_mem_nil _)
  case sB1 => ((simp only [List.map_cons, List.map_nil]); (iterate 8 (refine List.forall_mem_cons.mpr (And.intro (by (repeat (first | exact List.Mem.head _ | refine List.Mem.tail _ ?_))) ?_))); exact List.forall_mem_nil _)
  case sA1 => ((simp only [List.map_cons, List.map_nil]); (iterate 6 (refine List.forall_mem_cons.mpr (And.intro (by (repeat (first | exact List.Mem.head _ | refine List.Mem.tail _ ?_))) ?_))); exact List.forall_mem_nil _)
  case na => (refine ⟨?n0, ?n1, ?n2, ?n3, ?n4, ?n5, True.intro⟩; (case n0 => ((iterate 5 (refine List.forall_mem_cons.mpr (And.intro (by k_ne) ?_))); exact List.forall_mem_nil _)); (case n1 => ((iterate 4 (refine List.forall_mem_cons.mpr (And.intro (by k_ne) ?_))); exact List.forall_mem_nil _)); (case n2 => ((iterate 3 (refine List.forall_mem_cons.mpr (And.intro (by k_ne) ?_))); exact List.forall_mem_nil _)); (case n3 => ((iterate 2 (refine List.forall_mem_cons.mpr (And.intro (by k_ne) ?_))); exact List.forall_mem_nil _)); (case n4 => ((iterate 1 (refine List.forall_mem_cons.mpr (And.intro (by k_ne) ?_))); exact List.forall_mem_nil _)); (case n5 => exact List.forall_mem_nil _))
  case hQ =>
    intro h' tk' m' F' N'
    (try dsimp only)
    refine ⟨?gw, ?ga⟩
    case ga => k_dflt (repeat' (first | exact True.intro | (refine And.intro (GrownAt.of (by k_asm) (by k_mem)) ?_)))
    case gw => kc_close
  all_goals (with_reducible assumption))

end

end Mine
theorem PySem.Challenge.cw_sw0028_01_holds : PySem.Challenge.rw_sw0028_01.Holds :=
  Mine.law_holds
