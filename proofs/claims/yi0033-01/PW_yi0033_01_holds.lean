import PyProof.Rows.All
import Wide.All
import OpenK.AllK
import Wide.FinOn
import Lean
import PySem.Challenge.RW_yi0033_01
open PySem PySem.W PyProof.Rows PySem.Calls
set_option Elab.async false
namespace Mine
set_option compiler.extract_closed false
section
local macro_rules | `(tactic| o_head ($_f $K $as $_e)) => `(tactic| refine (fun (_ : $K = $K) h => h) ?hw ?hc)
local macro_rules | `(tactic| w_witness2) => `(tactic| exact rfl)
theorem hdK.tw14704943300801125057 : True := trivial
set_option Elab.async true in
theorem hdK : True := by
  refine' (fun (_ : _ → PySem.Challenge.rw_yi0033_01.Holds) => True.intro) ?f
  case f =>
    intro r
    w_on; o_law; k_head; (case hw => w_witness2)
    exact r
end
set_option maxRecDepth 100000
set_option maxHeartbeats 4000000

theorem entry_pow : entryFor table "pow" = some Builtin.«pow» := entryFor_of_tree (by kernel_rfl)
theorem kind_pow : builtinKind "pow" = none := by decide +kernel
theorem plain_pow : plainId "pow" = true := by decide +kernel
theorem args_pow3 (a b c : Value) : argsOk "pow" ⟨[a, b, c], []⟩ := by unfold argsOk; kernel_rfl

theorem gives_pow3 (b e m : Int) (t u v : Tok) (he : ¬ e < 0) (hm : ¬ (m == 0) = true) (hm1 : ¬ (m.natAbs == 1) = true) (hm2 : ¬ m < 0) :
    Gives (Builtin.«int.__pow__» ⟨[.int b t, .int e u, .int m v], []⟩) (.int (Builtin.powMod (b % (m.natAbs : Int)).toNat e.natAbs m.natAbs : Nat)) :=
  .of_wp fun M A E s Q h => by
    obtain ⟨hp, g, d, tk, os⟩ := s
    have hm2' : (decide (m < 0)) = false := decide_eq_false hm2
    wp_walk
    refine ⟨_, rfl, ?_⟩
    rw [if_neg (by rw [hm2']; simp)]
    exact h
theorem gives_powInv (t u v : Tok) :
    Gives (Builtin.«int.__pow__» ⟨[.int 128 t, .int (-1) u, .int 3329 v], []⟩) (.int 3303) :=
  .of_wp fun M A E s Q h => by
    obtain ⟨hp, g, d, tk, os⟩ := s
    wp_walk
    refine ⟨_, rfl, ?_⟩
    have e : Builtin.powMod (((0 : Int) - ↑(Int.natAbs 3329) / ↑((128 : Int) % ↑(Int.natAbs 3329)).toNat * 1) % ↑(Int.natAbs 3329)).toNat (-1 : Int).natAbs (Int.natAbs 3329) = 3303 := by decide +kernel
    rw [e]
    exact h
section
variable {prog : Program} {w : World} {A : Around} {E : Value → Shared → Prop} {s : Shared} {Q : Value → Shared → Prop}
theorem call_gives {T : String} {name : Str} {id : String} {b : Builtin} {self : Value} {rest : List Value} {mk : Made} (h : Slot T name id) (hT : s.TypeIs self T) (hb : entryFor table id = some b)
    (ha : argsOk id ⟨self :: rest, []⟩) (g : Gives (b ⟨self :: rest, []⟩) mk) (hq : mk.post Q s) : wpAny (model prog w) A (call (.builtin id) (self :: rest)) Q E s := by
  refine wpAny_call (codeAny_call_builtin h.plain hb (h.check _ _ _ _ _ _ _ _ hT ha ?_))
  exact g prog w A (fun r s' => match r with | .ok (.ret v) => Q v s' | .ok _ => False | .error e => E e s') s hq
theorem bind_pow3 (a b c : Value) : Builtin.Builtins.bindParams "pow" ["base", "exp", "mod"] 2 ⟨[a, b, c], []⟩ = pure [some a, some b, some c] := by kernel_rfl
theorem pow3 {b e m : Int} {t u v : Tok} {n : Int} (g : Gives (Builtin.«int.__pow__» ⟨[.int b t, .int e u, .int m v], []⟩) (.int n)) (h : Q (.int n s.toks) { s with toks := s.toks + 1 }) :
    wpAny (model prog w) A (call (.builtin "pow") [.int b t, .int e u, .int m v]) Q E s := by
  refine call_function_entry kind_pow plain_pow entry_pow (args_pow3 _ _ _) ?_
  unfold Builtin.«pow»
  have hd : PySem.dunder "pow" = (Str.ofString "__pow__") := by decide +kernel
  have sl : Slot "int" (Str.ofString "__pow__") "int.__pow__" := hd ▸ F.slot_int_pow
  have hl := sl.lookup
  have hb := sl.bind (.int b t)
  refine wpAny_bind ?_
  with_reducible refine wpAny_of_eq (bind_pow3 _ _ _) ?_
  dsimp only
  repeat ((fail_if_success (with_reducible show wpAny _ _ (call _ _) _ _ _)); wp_step)
  refine call_gives (T := "int") sl (typeIs_int _ b t) F.entry_int_pow (F.args_int_pow_3 _ _ _) g ?_
  dsimp only [Made.post]
  have hne : ((Value.int n s.toks) != Value.notImplemented) = true := by rfl
  refine wpAny_pure ?_
  dsimp only
  rw [if_pos hne]
  exact wpAny_pure ⟨_, rfl, h⟩
end

theorem typeCall_int_2 (a b : Value) : checkTypeCall "int" ⟨[a, b], []⟩ = pure () := by kernel_rfl
theorem newCall_int_2 (a b : Value) : checkBuiltinCall "int.__new__" ⟨[.type "int", a, b], []⟩ = pure () := by kernel_rfl
theorem args_object_init_3 (o a b : Value) : argsOk "object.__init__" ⟨[o, a, b], []⟩ := by unfold argsOk; kernel_rfl
section
variable {prog : Program} {w : World} {A : Around} {E : Value → Shared → Prop} {s : Shared} {Q : Value → Shared → Prop}
theorem call_int_2 {x y : Value} {S : PySem.Spec} (g : Meets (Builtin.«int.__new__» ⟨[.type "int", x, y], []⟩) S) (h : S A.in1 (wants (fun obj s₁ => s₁.TypeIs obj "int" ∧ Q obj s₁) E) s) :
    wpAny (model prog w) A (call (.type "int") [x, y]) Q E s :=
  callType_new F.called_int F.newNe_int (typeCall_int_2 x y) (newCall_int_2 x y) (fun obj => args_object_init_3 obj x y) F.entry_int_new g h
end
theorem wp_text2 {M : Model} {A : Around} {E : Value → Shared → Prop} {s : Shared} {Q : Value → Shared → Prop} {v : Value} {text : List Nat} {n : Int}
    (hs : (text.takeWhile (· != 0)).length ≤ 640) (hr : (int_private% "readNumeral") 0 2 (text.takeWhile (· != 0)) = (int_private% "Numeral.value") n)
    (ha : ((text.takeWhile (· != 0)).length == text.length) = true) (h : Q (.int n s.toks) { s with toks := s.toks + 1 }) :
    wpAny M A ((int_private% "intFromText") v text 2) Q E s := by
  obtain ⟨hp, g, d, tk, os⟩ := s
  repeat (any_goals (first
    | assumption
    | (with_reducible refine wpAny_ite_true (decide_eq_true hs) ?_)
    | (with_reducible refine wpAny_ite_true (decide_eq_true ha) ?_)
    | wp_step))
  all_goals (try rw [hr])
  all_goals (try dsimp only)
  repeat (any_goals (first
    | assumption
    | (with_reducible refine wpAny_ite_true (decide_eq_true hs) ?_)
    | (with_reducible refine wpAny_ite_true (decide_eq_true ha) ?_)
    | wp_step))
theorem gives_text2 {x : PySem.Str} {u t : Tok} {n : Int} (ha : x.cps.all (· < 128) = true) (hs : (x.cps.toList.takeWhile (· != 0)).length ≤ 640)
    (hr : (int_private% "readNumeral") 0 2 (x.cps.toList.takeWhile (· != 0)) = (int_private% "Numeral.value") n)
    (hk : ((x.cps.toList.takeWhile (· != 0)).length == x.cps.toList.length) = true) :
    Gives (Builtin.«int.__new__» ⟨[.type "int", .str x u, .int 2 t], []⟩) (.int n) :=
  .of_wp fun M A E s Q h => by
    obtain ⟨hp, g, d, tk, os⟩ := s
    have f1 := F.conv_sub_int
    have f2 := F.madeHere_int
    have f6 : typeOf (.str x u) = pure (.type "str") := rfl
    repeat (any_goals (first
      | assumption
      | ((with_reducible show wpAny _ _ ((int_private% "intFromText") _ _ _) _ _ _); rw [if_pos ha]; refine wp_text2 hs hr hk ?_)
      | (with_reducible refine wpAny_ite_true ha ?_)
      | wp_step))
    all_goals exact ⟨_, rfl, h⟩
section
variable {prog : Program} {w : World} {A : Around} {E : Value → Shared → Prop} {s : Shared} {Q : Value → Shared → Prop}
theorem int_text2 {x : PySem.Str} {u t : Tok} {n : Int} (ha : x.cps.all (· < 128) = true) (hs : (x.cps.toList.takeWhile (· != 0)).length ≤ 640)
    (hr : (int_private% "readNumeral") 0 2 (x.cps.toList.takeWhile (· != 0)) = (int_private% "Numeral.value") n)
    (hk : ((x.cps.toList.takeWhile (· != 0)).length == x.cps.toList.length) = true) (h : Q (.int n s.toks) { s with toks := s.toks + 1 }) :
    wpAny (model prog w) A (call (.type "int") [.str x u, .int 2 t]) Q E s :=
  call_int_2 (gives_text2 ha hs hr hk).meets (show (Made.int n).post _ s from ⟨rfl, h⟩)
end
set_option maxRecDepth 100000
set_option maxHeartbeats 8000000

/-- what a called def leaves: the hidden heap kept, a ledger, and a word of both -/
def Done (g : Heap) (s : Shared) (P : Value → Heap → List (Addr × Obj) → Prop) (v : Value) (s' : Shared) : Prop :=
  ∃ L' h' tk m' news', s' = { s with heap := h', toks := tk } ∧ Fr g L' h' m' ∧ News g L' h' news' ∧ P v h' news'
theorem Done.intro {g : Heap} {s s₁ : Shared} {P : Value → Heap → List (Addr × Obj) → Prop} {v : Value} {L' : Addr} {h' : Heap} {tk : Nat} {m' : Str → Option Value} {news' : List (Addr × Obj)}
    (F : Fr g L' h' m') (N : News g L' h' news') (p : P v h' news') (e : s₁ = { s with heap := h', toks := tk } := by rfl) : Done g s P v s₁ :=
  ⟨L', h', tk, m', news', e, F, N, p⟩

section
variable {prog : Program} {w : World} {A₀ A : Around} {s : Shared} {base h₀ : Heap} {outer : List Env} {L : Addr} {m : Str → Option Value} {env : Env} {news : List (Addr × Obj)} {K : Frag}
  {R : Result → Shared → Prop} {name qual : Str} {params : Arguments} {body : List Stmt} {scope : Scope} {dV kV doc pm cdv ct oc : Value} {an od : Option Addr} {osl : Array (Option Value)} {f : Addr} {args : Args} {binds : List (Str × Value)}
  {p : Program} {loose : List Str} {mean : ExcName → Option Value} {mg mb : Str → Option Value}

/-- enter a def over the heap less the ledger named -/
theorem code_S (S : Heap → Value → Shared → Prop) (B : Below A₀ base outer h₀) (F : Fr h₀ L s.heap m) (X₀ : K.In h₀) (N : News h₀ L s.heap news) (T : Top p loose mean mg mb h₀) (hA : A.frames = some (env :: outer)) (hf : env.frame = some L) (hke : env.scope.kind = .function)
    (ho : K.lookup f = some ⟨oc, od, .func (fnOf name qual params body scope dV kV doc pm an cdv ct), osl⟩) (hcd : codeIn K cdv qual = true) (hroom : A.depth < recursionLimit)
    (hbind : BindsTo s (fnOf name qual params body scope dV kV doc pm an cdv ct) args binds) (hloc : ∀ y ∈ binds, scope.names.lookup y.1 = some .local)
    (h : ∀ g L' h₁, Fr g L' h₁ (fun y => binds.reverse.lookup y) → News g L' h₁ news → Below A base (env :: outer) g → K.In g → Top p loose mean mg mb g → (∀ p ∈ news, p.1 < L') →
      wpAny (model prog w) (A.deeper (envOf qual scope L' f cdv)) (execs body (envOf qual scope L' f cdv))
        (fun fl s' => S g (match fl with | .ret v => v | _ => .none) s') (fun _ _ => False)
        { s with heap := h₁, toks := s.toks + binds.length })
    (fin : ∀ v s', S (hideAll s.heap (news.map (·.1))) v s' → R (.ok (.ret v)) s')
    (hco : scope.isCoroutine = false) (hgen : scope.isGenerator = false) (hk : scope.kind = .function)
    (hcell : ∀ x ∈ scope.names, x.2 ≠ .cell) : codeAny (model prog w) A (.call (.ref f) args) R s := by
  obtain ⟨FG, BG, st, _⟩ := groundX (R := R) B F N hA hf hke
  have X := X₀.keeps F.keep
  refine codeAny_call_def (fd := fnOf name qual params body scope dV kV doc pm an cdv ct) (body := body) (binds := binds) hroom (X _ _ ho) rfl (T.nolimit.keeps F.keep) (codeRec_of X hcd) rfl hbind hcell hloc (fun h₁ hns hk₁ => ?_) hco hgen hk
  refine wpAny_mono (h _ s.heap.objs.size h₁ ⟨hns, fun b o e => hk₁ b o (of_hideAll _ e), Nat.le_of_eq (hideAll_size _ _)⟩
    (fun p hp => ⟨hk₁ _ _ (N p hp).1, Nat.ne_of_lt (Heap.lt_size (N p hp).1), hideAll_none _ (List.mem_map_of_mem hp)⟩) BG (X₀.keeps st) (T.keeps st) (fun p hp => Heap.lt_size (N p hp).1)) (fun fl s' hl => fin _ _ hl) fun _ _ y => y.elim

theorem code_SC (S : Heap → Value → Shared → Prop) (B : Below A₀ base outer h₀) (F : Fr h₀ L s.heap m) (X₀ : K.In h₀) (N : News h₀ L s.heap news) (T : Top p loose mean mg mb h₀) (hA : A.frames = some (env :: outer)) (hf : env.frame = some L) (hke : env.scope.kind = .function)
    (ho : K.lookup f = some ⟨oc, od, .func (fnOf name qual params body scope dV kV doc pm an cdv ct), osl⟩) (hcd : codeIn K cdv qual = true) (hroom : A.depth < recursionLimit)
    (hbind : BindsTo s (fnOf name qual params body scope dV kV doc pm an cdv ct) args binds) (hkind : (binds.all fun y => scope.names.lookup y.1 == some .local || scope.names.lookup y.1 == some .cell) = true)
    (hnd : ((cellsFrom 0 scope.names []).map (·.1)).Nodup)
    (h : ∀ g L' h₁ tk cells, Fr g L' h₁ (bindL (envOfC qual scope L' f cdv).kindOf binds fun _ => none) → News g L' h₁ (cells ++ news) →
      CellsAre (bindC (envOfC qual scope L' f cdv).kindOf binds fun _ => none) (cellsFrom (L' + 1) scope.names []) cells → Below A base (env :: outer) g → K.In g → Top p loose mean mg mb g → (∀ p ∈ news, p.1 < L') →
      wpAny (model prog w) (A.deeper (envOfC qual scope L' f cdv)) (execs body (envOfC qual scope L' f cdv))
        (fun fl s' => S g (match fl with | .ret v => v | _ => .none) s') (fun _ _ => False)
        { s with heap := h₁, toks := tk })
    (fin : ∀ v s', S (hideAll s.heap (news.map (·.1))) v s' → R (.ok (.ret v)) s')
    (hco : scope.isCoroutine = false) (hgen : scope.isGenerator = false) (hk : scope.kind = .function) : codeAny (model prog w) A (.call (.ref f) args) R s := by
  obtain ⟨FG, BG, st, _⟩ := groundX (R := R) B F N hA hf hke
  have X := X₀.keeps F.keep
  refine codeAny_call_function hroom (X _ _ ho) rfl hco hgen rfl (codeRec_of X hcd) (hbind _ _ _ _ ?_)
  refine wpAny_newFunctionEnv_cells hk (kindsX hkind _) fun env' he s' x => ?_
  subst he
  refine ⟨(T.nolimit.keeps F.keep).keeps x.toInCall.keep, codeAny_func ?_⟩
  obtain ⟨h₁, tk, rfl, _⟩ := x.done
  have hk₁ := x.toInCall.keep
  obtain ⟨cells, NC, Y⟩ := Cl.news (h₀ := s.heap) (Nat.le_refl _) fun n c hm => ⟨x.cell n c (lookup_of_mem_nodup (cellsFrom_names scope.names 0 (s.heap.objs.size + 1) [] [] rfl ▸ hnd) hm), x.above n c hm⟩
  refine wpAny_mono (h _ s.heap.objs.size h₁ tk cells ⟨x.toInCall.ns, fun b o e => hk₁ b o (of_hideAll _ e), Nat.le_of_eq (hideAll_size _ _)⟩ (fun p hp => ?_) Y BG (X₀.keeps st) (T.keeps st) (fun p hp => Heap.lt_size (N p hp).1)) (fun fl s' hl => fin _ _ hl) fun _ _ y => y.elim
  rcases List.mem_append.mp hp with hp | hp
  · refine ⟨(NC p hp).1, (NC p hp).2.1, ?_⟩
    cases q : (hideAll s.heap (news.map (·.1))).get? p.1 with
    | none => rfl
    | some o => have := of_hideAll _ q; rw [(NC p hp).2.2] at this; cases this
  · exact ⟨hk₁ _ _ (N p hp).1, Nat.ne_of_lt (Heap.lt_size (N p hp).1), hideAll_none _ (List.mem_map_of_mem hp)⟩
end

/-- what a call leaves: all is kept but what is named -/
def KeepsBut (as : List Addr) (h h' : Heap) : Prop := ∀ b o, h.get? b = some o → b ∉ as → h'.get? b = some o
theorem Done.out {s : Shared} {as : List Addr} {P : Value → Heap → List (Addr × Obj) → Prop} {v : Value} {s' : Shared} (d : Done (hideAll s.heap as) s P v s') :
    ∃ h' tk news', s' = { s with heap := h', toks := tk } ∧ KeepsBut as s.heap h' ∧ (∀ p ∈ news', h'.get? p.1 = some p.2 ∧ (p.1 ∈ as ∨ s.heap.get? p.1 = none)) ∧ P v h' news' := by
  obtain ⟨L', h', tk, m', news', e, F, N, p⟩ := d
  refine ⟨h', tk, news', e, fun b o hb hn => F.keep b o (hideAll_get as hb hn), fun q hq => ⟨(N q hq).1, ?_⟩, p⟩
  by_cases ha : q.1 ∈ as
  · exact .inl ha
  · refine .inr ?_
    cases hz : s.heap.get? q.1 with
    | none => rfl
    | some o => have := (N q hq).2.2; rw [hideAll_get as hz ha] at this; cases this
theorem Fr.stays {h₀ h h' : Heap} {L : Addr} {m : Str → Option Value} (F : Fr h₀ L h m) (k : h.StaysIn h') : Fr h₀ L h' m :=
  ⟨F.ns.keeps k, fun b o e => k b o (F.keep b o e), F.above⟩
theorem News.stays {h₀ h h' : Heap} {L : Addr} {news : List (Addr × Obj)} (N : News h₀ L h news) (k : h.StaysIn h') : News h₀ L h' news :=
  fun p hp => ⟨k _ _ (N p hp).1, (N p hp).2⟩
section
variable {prog : Program} {w : World} {A : Around} {E : Value → Shared → Prop} {s : Shared} {h₀ : Heap} {L D : Addr} {m : Str → Option Value} {news news' : List (Addr × Obj)} {its its' : Array Value} {n : Nat} {k : Int} {t : Tok} {v : Value}
theorem set_here {Q : Unit → Shared → Prop} (F : Fr h₀ L s.heap m) (N : News h₀ L s.heap news) (U : Upd D (listOf its n) (listOf its' n) news news') (h0 : 0 ≤ k) (h1 : k < its.size) (hfit : k < 2 ^ 63) (e : its.setIfInBounds k.toNat v = its')
    (h : ∀ h', Fr h₀ L h' m → News h₀ L h' news' → Q () { s with heap := h' }) : wpAny (model prog w) A (setItem (.ref D) (.int k t) v) Q E s := by
  obtain ⟨pre, post, rfl, rfl, a, b⟩ := U.split
  have z := N (D, listOf its n) (List.mem_append.mpr (.inr (.head _)))
  refine ki_setAt z.1 h0 hfit h1 (h _ (F.change (Heap.SameBut.update ..) z.2.1 z.2.2) (ki_turn _ N a b e ?_))
  rw [← e]
  simp
end
/-- 256 ints from 0 to 3328 -/
def Row256 (c : List Int) : Prop := c.length = 256 ∧ ∀ x ∈ c, 0 ≤ x ∧ x < 3329
theorem gn_lt {I : Addr} {l : List (Addr × Obj)} (h : ∀ p ∈ l, p.1 < I) : GnNe I l := gnNe_of fun p hp => Nat.ne_of_lt (h p hp)
theorem fresh_ne {h₀ h : Heap} {L a : Addr} {news : List (Addr × Obj)} (N : News h₀ L h news) (e : h.get? a = none) : GnNe a news :=
  gnNe_of fun p hp q => by
    have := (N p hp).1
    rw [q, e] at this; cases this
theorem fresh_news {h₀ h h' : Heap} {L a : Addr} {m : Str → Option Value} {news : List (Addr × Obj)} {o : Obj} (F : Fr h₀ L h m) (e : h.get? a = none) (N : News h₀ L h' news) (ho : h'.get? a = some o) : News h₀ L h' ((a, o) :: news) := by
  intro p hp
  rcases List.mem_cons.mp hp with rfl | hp
  · refine ⟨ho, fun q => ?_, ?_⟩
    · obtain ⟨oL, _, _, hL, _⟩ := F.ns
      have q' : a = L := q
      rw [q', hL] at e; cases e
    · cases hz : h₀.get? a with
      | none => rfl
      | some o' => rw [F.keep _ _ hz] at e; cases e
  · exact N p hp
theorem News.of_keeps {h₀ h h' : Heap} {L : Addr} {as : List Addr} {news : List (Addr × Obj)} (N : News h₀ L h news) (k : KeepsBut as h h') (hd : ∀ p ∈ news, p.1 ∉ as) : News h₀ L h' news :=
  fun p hp => ⟨k _ _ (N p hp).1 (hd p hp), (N p hp).2⟩
theorem Fr.of_keeps {h₀ h h' : Heap} {L : Addr} {m : Str → Option Value} {as : List Addr} (F : Fr h₀ L h m) (k : KeepsBut as h h') (ha : ∀ a ∈ as, a ≠ L ∧ h₀.get? a = none) : Fr h₀ L h' m := by
  obtain ⟨o, es, ep, ho, r⟩ := F.ns
  refine ⟨⟨o, es, ep, k _ _ ho fun q => (ha L q).1 rfl, r⟩, fun b ob e => k _ _ (F.keep b ob e) fun q => ?_, F.above⟩
  rw [(ha b q).2] at e; cases e
theorem KeepsBut.stays {h h' : Heap} (k : KeepsBut [] h h') : h.StaysIn h' := fun b o e => k b o e (fun q => nomatch q)
/-- a call that leaves the ledger named as it was -/
theorem Done.pure {s : Shared} {sub : List (Addr × Obj)} {P : Value → Heap → List (Addr × Obj) → Prop} {v : Value} {s' : Shared} (d : Done (hideAll s.heap (sub.map (·.1))) s P v s')
    (hs : ∀ p ∈ sub, s.heap.get? p.1 = some p.2) (same : ∀ v h led, P v h led → ∀ p ∈ sub, p ∈ led) :
    ∃ h' tk led, s' = { s with heap := h', toks := tk } ∧ s.heap.StaysIn h' ∧ (∀ p ∈ led, h'.get? p.1 = some p.2 ∧ (p.1 ∈ sub.map (·.1) ∨ s.heap.get? p.1 = none)) ∧ P v h' led := by
  obtain ⟨h', tk, led, e, k, hl, p⟩ := d.out
  refine ⟨h', tk, led, e, fun b o hb => ?_, hl, p⟩
  by_cases hm : b ∈ sub.map (·.1)
  · obtain ⟨q, hq, rfl⟩ := List.mem_map.mp hm
    rw [hs q hq] at hb
    cases hb
    exact (hl q (same _ _ _ p q hq)).1
  · exact k b o hb hm
theorem gn_off {a : Addr} : ∀ {sub : List (Addr × Obj)}, GnNe a sub → a ∉ sub.map (·.1)
  | [], _, h => nomatch h
  | p :: r, g, h => by
    rcases List.mem_cons.mp h with h | h
    · exact g.1 h.symm
    · exact gn_off g.2 h
theorem fresh_of {s : Shared} {sub led : List (Addr × Obj)} {a : Addr} {o : Obj} {h' : Heap} (hl : ∀ p ∈ led, h'.get? p.1 = some p.2 ∧ (p.1 ∈ sub.map (·.1) ∨ s.heap.get? p.1 = none)) (m : (a, o) ∈ led) (g : GnNe a sub) : s.heap.get? a = none := by
  rcases (hl _ m).2 with q | q
  · exact absurd q (gn_off g)
  · exact q
theorem News.sub {h₀ h : Heap} {L : Addr} {news sub : List (Addr × Obj)} (N : News h₀ L h news) (hs : ∀ p ∈ sub, p ∈ news) : News h₀ L h sub := fun p hp => N p (hs p hp)
theorem gnc {L x : Addr} {l : List (Addr × Obj)} (h : ∀ p ∈ l, p.1 < L) (hx : L ≤ x) : GnNe x l := gnNe_of fun p hp => Nat.ne_of_lt (Nat.lt_of_lt_of_le (h p hp) hx)
theorem gnc1 {L : Addr} {l : List (Addr × Obj)} (h : ∀ p ∈ l, p.1 < L) : GnNe (L + 1) l := gnc h (Nat.le_succ L)
theorem gnc2 {L : Addr} {l : List (Addr × Obj)} (h : ∀ p ∈ l, p.1 < L) : GnNe (L + 1 + 1) ((L + 1, dictOf [] 0) :: l) := ⟨Nat.ne_of_lt (show @LT.lt Nat _ (L + 1) (L + 1 + 1) from Nat.lt_succ_self _), gnc h (Nat.le_succ_of_le (Nat.le_succ L))⟩
theorem gnc3 {L : Addr} {l : List (Addr × Obj)} (h : ∀ p ∈ l, p.1 < L) : GnNe (L + 1 + 1 + 1) ((L + 1 + 1, dictOf [] 0) :: (L + 1, dictOf [] 0) :: l) :=
  ⟨Nat.ne_of_lt (show @LT.lt Nat _ (L + 1 + 1) (L + 1 + 1 + 1) from Nat.lt_succ_self _), Nat.ne_of_lt (show @LT.lt Nat _ (L + 1) (L + 1 + 1 + 1) from Nat.lt_succ_of_lt (Nat.lt_succ_self _)), gnc h (Nat.le_succ_of_le (Nat.le_succ_of_le (Nat.le_succ L)))⟩
theorem gnc4 {L : Addr} {l : List (Addr × Obj)} (h : ∀ p ∈ l, p.1 < L) : GnNe (L + 1 + 1 + 1 + 1) ((L + 1 + 1 + 1, dictOf [] 0) :: (L + 1 + 1, dictOf [] 0) :: (L + 1, dictOf [] 0) :: l) :=
  ⟨Nat.ne_of_lt (show @LT.lt Nat _ (L + 1 + 1 + 1) (L + 1 + 1 + 1 + 1) from Nat.lt_succ_self _), Nat.ne_of_lt (show @LT.lt Nat _ (L + 1 + 1) (L + 1 + 1 + 1 + 1) from Nat.lt_succ_of_lt (Nat.lt_succ_self _)), Nat.ne_of_lt (show @LT.lt Nat _ (L + 1) (L + 1 + 1 + 1 + 1) from Nat.lt_succ_of_lt (Nat.lt_succ_of_lt (Nat.lt_succ_self _))), gnc h (Nat.le_succ_of_le (Nat.le_succ_of_le (Nat.le_succ_of_le (Nat.le_succ L))))⟩
noncomputable def nth : List (Addr × Obj) → Nat → Option (Addr × Obj)
  | [], _ => none
  | p :: _, 0 => some p
  | _ :: r, n + 1 => nth r n
theorem memIx {p : Addr × Obj} : ∀ {l : List (Addr × Obj)} (i : Nat), nth l i = some p → p ∈ l
  | _ :: _, 0, h => by cases h; exact .head _
  | _ :: _, n + 1, h => .tail _ (memIx n h)
theorem fit_k {x k : Int} {n : Nat} (h0 : 0 ≤ k) (h1 : k < 0 + (n : Int)) (hn : n ≤ 4096) : IntMulOk x k := .of_right (intBits_le_64 (by omega) (by omega))
theorem lt_k {k c : Int} {n : Nat} (h : k < 0 + (n : Int)) (e : 0 + (n : Int) = c) : k < c := e ▸ h
theorem gn_at {d q : Addr} {o : Obj} : ∀ {l : List (Addr × Obj)}, GnNe d l → (q, o) ∈ l → @Ne Nat q d
  | p :: r, g, h => by
    rcases List.mem_cons.mp h with h | h
    · have := g.1; rw [← h] at this; exact this
    · exact gn_at g.2 h
theorem gn_at' {d q : Addr} {o : Obj} {l : List (Addr × Obj)} (g : GnNe d l) (h : (q, o) ∈ l) : @Ne Nat d q := Ne.symm (gn_at g h)
theorem gm_ne {a : Addr} : ∀ {l : List (Addr × Obj)}, GnNe a l → ∀ p ∈ l, p.1 ≠ a
  | [], _, _, h => nomatch h
  | p :: r, g, q, hq => by
    rcases List.mem_cons.mp hq with h | hq
    · rw [h]; exact g.1
    · exact gm_ne g.2 q hq
theorem gm_map {x : Addr} : ∀ {l l' : List (Addr × Obj)}, l.map (·.1) = l'.map (·.1) → GnNe x l → GnNe x l'
  | [], [], _, _ => trivial
  | [], _ :: _, h, _ => nomatch h
  | _ :: _, [], h, _ => nomatch h
  | p :: _, q :: _, h, g => ⟨fun e => g.1 ((List.cons.inj h).1.trans e), gm_map (List.cons.inj h).2 g.2⟩
set_option maxRecDepth 100000
set_option maxHeartbeats 4000000
section
variable {M : Model} {A : Around} {E : Value → Shared → Prop} {s : Shared} {K : Frag} {env : Env} {pos : Pos} {x C : Addr} {ox : Obj} {od : Option Obj} {first : List Value} {Q : Value → Shared → Prop}
/-- an object called with keywords -/
theorem callWith_ownKW {f : Addr} {e : Expr} {rest : List Expr} {kws : List Keyword} (_X : K.In s.heap) (_I : InstAt s.heap x ox C od) (hd : ox.data = .plain) (_hs : findIn K (.ref C) "__call__" = some (some (.ref f)))
    (hall : (backToKw pos (keywordEach kws env)).all (·.1.isSome) = true)
    (h : wpAny M A (spliced (backTo pos (starEach (e :: rest) env))) (fun vs s₁ => wpAny M A (evalAll ((backToKw pos (keywordEach kws env)).map (·.2)))
      (fun ks s₂ => kco_P K x C ox od s₂.heap ∧ wpAny M A (call (.ref x) (first ++ vs) (((backToKw pos (keywordEach kws env)).filterMap (·.1)).zip ks)) Q E s₂) E s₁) E s)
    (hplain : ((backTo pos (starEach (e :: rest) env)).any (·.1) || (backToKw pos (keywordEach kws env)).any (·.1.isNone)) = false := by rfl) (he : starEach (e :: rest) env = (false, eval e env) :: starEach rest env := by rfl) :
    wpAny M A (callWith pos (.ref x) first (backTo pos (starEach (e :: rest) env)) (backToKw pos (keywordEach kws env))) Q E s :=
  kco_callWith_of (K := K) (C := C) (od := od) hplain hd (evalArgs_kw2 hall h he)
end
set_option maxRecDepth 100000
section
variable {M : Model} {A : Around} {E : Value → Shared → Prop} {s : Shared} {env : Env}
def qBin (M : Model) (A : Around) (r : PySem.Expr) (op : Operator) (env : Env) (Q E : Value → Shared → Prop) (a : Value) (s₁ : Shared) : Prop := wpAny M A (eval r env) (fun b s₂ => wpAny M A (binaryOp op a b) Q E s₂) E s₁
def qBin2 (M : Model) (A : Around) (op : Operator) (a : Value) (Q E : Value → Shared → Prop) (b : Value) (s₂ : Shared) : Prop := wpAny M A (binaryOp op a b) Q E s₂
theorem qb0 {l r : PySem.Expr} {op : Operator} {pos : Pos} {Q : Value → Shared → Prop} (h : wpAny M A (eval l env) (qBin M A r op env Q E) E s) : wpAny M A (eval (.BinOp l op r pos) env) Q E s := wpAny_BinOp h
theorem qb1 {r : PySem.Expr} {op : Operator} {a : Value} {Q : Value → Shared → Prop} (h : wpAny M A (eval r env) (qBin2 M A op a Q E) E s) : qBin M A r op env Q E a s := h
theorem qb2 {op : Operator} {a b : Value} {Q : Value → Shared → Prop} (h : wpAny M A (binaryOp op a b) Q E s) : qBin2 M A op a Q E b s := h
def qArg (M : Model) (A : Around) (pos : Pos) (rest : List PySem.Expr) (env : Env) (Q : List Value → Shared → Prop) (E : Value → Shared → Prop) (v : Value) (s₁ : Shared) : Prop := wpAny M A (spliced (backTo pos (starEach rest env))) (fun vs s₂ => Q (v :: vs) s₂) E s₁
def qArg2 (v : Value) (Q : List Value → Shared → Prop) (vs : List Value) (s₂ : Shared) : Prop := Q (v :: vs) s₂
theorem qa0 {e : PySem.Expr} {rest : List PySem.Expr} {pos : Pos} {Q : List Value → Shared → Prop} (h : wpAny M A (eval e env) (qArg M A pos rest env Q E) E s) (he : starEach (e :: rest) env = (false, eval e env) :: starEach rest env := by rfl) :
    wpAny M A (spliced (backTo pos (starEach (e :: rest) env))) Q E s := args_cons h he
theorem qa1 {rest : List PySem.Expr} {pos : Pos} {v : Value} {Q : List Value → Shared → Prop} (h : wpAny M A (spliced (backTo pos (starEach rest env))) (qArg2 v Q) E s) : qArg M A pos rest env Q E v s := h
theorem qa2 {v : Value} {vs : List Value} {Q : List Value → Shared → Prop} (h : Q (v :: vs) s) : qArg2 v Q vs s := h
def qSeq (M : Model) (A : Around) (rest : List Stmt) (env : Env) (Q : Flow → Shared → Prop) (E : Value → Shared → Prop) (f : Flow) (s' : Shared) : Prop := match f with | .next => wpAny M A (execs rest env) Q E s' | f => Q f s'
theorem qs0 {st : Stmt} {rest : List Stmt} {Q : Flow → Shared → Prop} (h : wpAny M A (exec st env) (qSeq M A rest env Q E) E s) : wpAny M A (execs (st :: rest) env) Q E s := wpAny_execs_cons h
theorem qs1 {rest : List Stmt} {Q : Flow → Shared → Prop} (h : wpAny M A (execs rest env) Q E s) : qSeq M A rest env Q E .next s := h
theorem qs2 {rest : List Stmt} {v : Value} {Q : Flow → Shared → Prop} (h : Q (.ret v) s) : qSeq M A rest env Q E (.ret v) s := h
theorem qs3 {rest : List Stmt} {Q : Flow → Shared → Prop} (h : Q .brk s) : qSeq M A rest env Q E .brk s := h
theorem qs4 {rest : List Stmt} {Q : Flow → Shared → Prop} (h : Q .cont s) : qSeq M A rest env Q E .cont s := h
def qCall (M : Model) (A : Around) (pos : Pos) (args : List PySem.Expr) (env : Env) (Q E : Value → Shared → Prop) (f : Value) (s₁ : Shared) : Prop := wpAny M A (callWith pos f [] (backTo pos (starEach args env)) []) Q E s₁
theorem qc0 {func : PySem.Expr} {args : List PySem.Expr} {pos : Pos} {Q : Value → Shared → Prop} (h : wpAny M A (eval func env) (qCall M A pos args env Q E) E s)
    (he : eval (.Call func args [] pos) env = (do let f ← eval func env; callWith pos f [] (backTo pos (starEach args env)) (backToKw pos (keywordEach [] env))) := by rfl) : wpAny M A (eval (.Call func args [] pos) env) Q E s := Call_ h he
theorem qc1 {args : List PySem.Expr} {pos : Pos} {f : Value} {Q : Value → Shared → Prop} (h : wpAny M A (callWith pos f [] (backTo pos (starEach args env)) []) Q E s) : qCall M A pos args env Q E f s := h
def qSub (M : Model) (A : Around) (value slice : PySem.Expr) (env : Env) (Q E : Value → Shared → Prop) (o : Value) (s₁ : Shared) : Prop := wpAny M A (eval slice env) (fun i s₂ => wpAny M A (subscriptTail value slice o i) Q E s₂) E s₁
def qSub2 (M : Model) (A : Around) (value slice : PySem.Expr) (o : Value) (Q E : Value → Shared → Prop) (i : Value) (s₂ : Shared) : Prop := wpAny M A (subscriptTail value slice o i) Q E s₂
theorem qu0 {value slice : PySem.Expr} {pos : Pos} {Q : Value → Shared → Prop} (h : wpAny M A (eval value env) (qSub M A value slice env Q E) E s) : wpAny M A (eval (.Subscript value slice pos) env) Q E s := Subscript_ h
theorem qu1 {value slice : PySem.Expr} {o : Value} {Q : Value → Shared → Prop} (h : wpAny M A (eval slice env) (qSub2 M A value slice o Q E) E s) : qSub M A value slice env Q E o s := h
theorem qu2 {value slice : PySem.Expr} {o i : Value} {Q : Value → Shared → Prop} (h : wpAny M A (subscriptTail value slice o i) Q E s) : qSub2 M A value slice o Q E i s := h
def qAsg (M : Model) (A : Around) (x : Str) (env : Env) (Q : Flow → Shared → Prop) (E : Value → Shared → Prop) (v : Value) (s₁ : Shared) : Prop := wpAny M A (storeName env x v) (fun _ => Q .next) E s₁
def qNext (Q : Flow → Shared → Prop) (_ : Unit) (s₁ : Shared) : Prop := Q .next s₁
theorem qg0 {x : Str} {pos' pos : Pos} {value : PySem.Expr} {Q : Flow → Shared → Prop} (h : wpAny M A (eval value env) (qAsg M A x env Q E) E s) (hs : swapsWith value (some (.Name x pos')) pos.line env = pure false := by rfl) :
    wpAny M A (exec (.Assign [.Name x pos'] value pos) env) Q E s := wpAny_Assign_Name h hs
theorem qg1 {x : Str} {v : Value} {Q : Flow → Shared → Prop} (h : wpAny M A (storeName env x v) (qNext Q) E s) : qAsg M A x env Q E v s := h
theorem qg2 {u : Unit} {Q : Flow → Shared → Prop} (h : Q .next s) : qNext Q u s := h
def qAtt (M : Model) (A : Around) (attr : Str) (Q E : Value → Shared → Prop) (o : Value) (s₁ : Shared) : Prop := wpAny M A (getAttr o attr true) Q E s₁
theorem qt0 {x attr : Str} {xp pos : Pos} {Q : Value → Shared → Prop} (h : wpAny M A (eval (.Name x xp) env) (qAtt M A attr Q E) E s) : wpAny M A (eval (.Attribute (.Name x xp) attr pos) env) Q E s := Attribute_Name_ h rfl
theorem qt1 {attr : Str} {o : Value} {Q : Value → Shared → Prop} (h : wpAny M A (getAttr o attr true) Q E s) : qAtt M A attr Q E o s := h
def qRet (Q : Flow → Shared → Prop) (v : Value) (s₁ : Shared) : Prop := Q (.ret v) s₁
theorem qr0 {e : PySem.Expr} {pos : Pos} {Q : Flow → Shared → Prop} (h : wpAny M A (eval e env) (qRet Q) E s) : wpAny M A (exec (.Return (some e) pos) env) Q E s := wpAny_Return_some h
theorem qr1 {v : Value} {Q : Flow → Shared → Prop} (h : Q (.ret v) s) : qRet Q v s := h
end
theorem top_YState : True := by
  w_top off
  trivial
set_option maxRecDepth 100000
set_option maxHeartbeats 8000000
set_option rowWalk.seconds 0
local macro_rules | `(tactic| walk_at "mm") => `(tactic| first | exact memIx 0 rfl | exact memIx 1 rfl | exact memIx 2 rfl | exact memIx 3 rfl | exact memIx 4 rfl | exact memIx 5 rfl | exact memIx 6 rfl | exact memIx 7 rfl | exact memIx 8 rfl | exact memIx 9 rfl | exact memIx 10 rfl | exact memIx 11 rfl | exact memIx 12 rfl | exact memIx 13 rfl | exact memIx 14 rfl | exact memIx 15 rfl | exact memIx 16 rfl | exact memIx 17 rfl | exact memIx 18 rfl | exact memIx 19 rfl | exact memIx 20 rfl | exact memIx 21 rfl | exact memIx 22 rfl | exact memIx 23 rfl | exact memIx 24 rfl | exact memIx 25 rfl | exact memIx 26 rfl | exact memIx 27 rfl | exact memIx 28 rfl | exact memIx 29 rfl | exact memIx 30 rfl | exact memIx 31 rfl | exact memIx 32 rfl | exact memIx 33 rfl | exact memIx 34 rfl | exact memIx 35 rfl | exact memIx 36 rfl | exact memIx 37 rfl | exact memIx 38 rfl | exact memIx 39 rfl | exact memIx 40 rfl | exact memIx 41 rfl | exact memIx 42 rfl | exact memIx 43 rfl | exact memIx 44 rfl | exact memIx 45 rfl | exact memIx 46 rfl | exact memIx 47 rfl | exact memIx 48 rfl | exact memIx 49 rfl | exact memIx 50 rfl | exact memIx 51 rfl)
local macro_rules | `(tactic| k_lt $h:ident) => `(tactic| ((try have gk' := gn_lt $h); replace $h:ident := allLt_of $h; dsimp only [AllLt] at $h:ident))
local macro_rules | `(tactic| k_ne) => `(tactic| (refine neN ?_; (try dsimp only); first | exact gn_at (by with_reducible assumption) (by walk_at "mm") | exact gn_at' (by with_reducible assumption) (by walk_at "mm") | fail))
local macro_rules | `(tactic| k_all) => `(tactic| first | exact gm_ne (by with_reducible assumption) | (refine' gm_ne (gm_map ?e ?g); (case g => with_reducible assumption); (case e => rfl)) | fail)
local macro_rules | `(tactic| k_room) => `(tactic| ktr_room)
example : PySem.Challenge.rw_yi0033_01.prog.main.futureAnnotations = false → hdK.heap_1_39 = hdK.heap_1_39 → True := by
  k_fill
  intro _ _; trivial
section
variable {w : World} {p : Program} {loose : List Str} {mean : ExcName → Option Value} {mg mb : Str → Option Value} {dp un : Nat} {gd : Option (List Code)} {cn : Str} {cs : Scope} {a : Addr} {ccd : Value} {cl : List (Str × Addr)} {outer : List Env} {A₀ : Around} {base h₀ : Heap} {L : Addr} {m : Str → Option Value} {news : List (Addr × Obj)} {s : Shared} {Q E : Value → Shared → Prop}
def StateP (v : Value) (_h : Heap) (led : List (Addr × Obj)) : Prop :=
  ∃ st ce vs ns t k1 k2, v = .ref st ∧ @Ne Nat st ce ∧ IntsAre vs ns ∧ 0 < ns.length ∧ ns.length ≤ 63 ∧ (∀ x ∈ ns, 0 ≤ x) ∧ (st, listOf #[.int 0 t, .ref ce] k1) ∈ led ∧ (ce, listOf vs.toArray k2) ∈ led
theorem state_use (B : Below A₀ base outer h₀) (F : Fr h₀ L s.heap m) (X : (hdK.heap_1_39 w.params).In h₀) (N : News h₀ L s.heap news) (T : Top p loose mean mg mb h₀) (hk : cs.kind = .function)
   {sc : Addr} {vs : List Value} {ns : List Int} (hl : base.IsList sc vs.toArray) (hI : IntsAre vs ns) (hlen : ¬ ((63 : Int) < (ns.length : Int)))
   (hd : dp + 20 < recursionLimit)
   (ret : ∀ st ce vs' ns' t k1 k2 h' tk', IntsAre vs' ns' → 0 < ns'.length → ns'.length ≤ 63 → (∀ x ∈ ns', 0 ≤ x) → @Ne Nat st ce → GnNe ce news → GnNe st news → Fr h₀ L h' m → News h₀ L h' ((st, listOf #[.int 0 t, .ref ce] k1) :: (ce, listOf vs'.toArray k2) :: news) → Q (.ref st) {s with heap := h', toks := tk'}) :
   wpAny (model (PySem.Challenge.rw_yi0033_01.row.toRowW.prog) w) (ktrTop dp un gd cn cs L a ccd cl outer) (call (.ref 680) [.ref sc]) Q E s := by
  refine wpAny_call ?_
  k_dflt (refine' code_S (fun g => Done g s StateP) ?k1 ?k2 ?k3 (News.nil (L := L)) ?k5 ?kA ?kF ?kK ?k6 ?k7 ?k8 ?k9 ?kB ?_ ?fin ?c2 ?c3 ?c4 ?c5; ((case kA => exact rfl); (case kF => first | exact rfl | assumption); (case kK => assumption); (case k1 => k_asm); (case k2 => k_asm); (case k3 => k_asm); (case k5 => k_asm); (case k6 => k_is); (case k7 => k_is); (case k8 => ktr_room); (case k9 => first | exact BindsTo.of_eq rfl | exact binds_K (by k_in) rfl (by k_is) rfl rfl rfl); (case c5 => decide); (case kB => exact locs rfl); (case c2 => exact rfl); (case c3 => exact rfl); (case c4 => exact rfl)))
  case fin =>
    intro v s' d
    obtain ⟨h', tk, led, rfl, k, hl, st, ce, vs', ns', t, k1, k2, rfl, ne, i1, i2, i3, i4, e1, e2⟩ := d.out
    have f1 : s.heap.get? st = none := (hl _ e1).2.resolve_left (fun q => nomatch q)
    have f2 : s.heap.get? ce = none := (hl _ e2).2.resolve_left (fun q => nomatch q)
    exact ret st ce vs' ns' t k1 k2 h' tk i1 i2 i3 i4 ne (fresh_ne N f2) (fresh_ne N f1) (Fr.stays F k.stays) (fresh_news F f1 (fresh_news F f2 (News.stays N k.stays) (hl _ e2).1) (hl _ e1).1)
  intro g' L' h' F' N' B' X' T' l1
  have hl' : g'.IsList sc vs.toArray := by
    obtain ⟨o, e, r⟩ := hl
    exact ⟨o, B'.stays _ _ e, r⟩
  clear N F X ret hl
  with_reducible show wpAny _ _ _ _ _ _
  k_fold
  repeat' (first | (k_unfold; (try dsimp only)) | ((with_reducible refine qb1 ?_); (try dsimp only)) | ((with_reducible refine qb2 ?_); (try dsimp only)) | ((with_reducible refine qa1 ?_); (try dsimp only)) | ((with_reducible refine qa2 ?_); (try dsimp only [List.cons_append, List.nil_append])) | ((with_reducible refine qs1 ?_); (try dsimp only)) | ((with_reducible refine qs2 ?_); (try dsimp only)) | (with_reducible refine qs3 ?_) | (with_reducible refine qs4 ?_) | ((with_reducible refine qc1 ?_); (try dsimp only)) | ((with_reducible refine qu1 ?_); (try dsimp only)) | (with_reducible refine qu2 ?_) | ((with_reducible refine qg1 ?_); (try dsimp only)) | (with_reducible refine qg2 ?_) | ((with_reducible refine qt1 ?_); (try dsimp only)) | ((with_reducible refine qr1 ?_); (try dsimp only)) | (with_reducible refine qb0 ?_) | (with_reducible refine qu0 ?_) | ((with_reducible show wpAny _ _ (spliced (backTo _ (starEach (_ :: _) _))) _ _ _); k_dflt (refine qa0 ?_)) | ((with_reducible show wpAny _ _ (execs (_ :: _) _) _ _ _); first | (k_here; k_gentoks) | (with_reducible refine qs0 ?_)) | ((with_reducible show wpAny _ _ (eval (PySem.Expr.Call (PySem.Expr.Name _ _) _ [] _) _) _ _ _); (fail_if_success (with_reducible show wpAny _ _ (eval _ (compEnvC _ _ _ _)) _ _ _)); k_dflt (refine qc0 ?_)) | ((with_reducible show wpAny _ _ (exec (Stmt.Assign [PySem.Expr.Name _ _] _ _) _) _ _ _); (fail_if_success (with_reducible show wpAny _ _ (exec (Stmt.Assign _ (PySem.Expr.ListComp _ _ _ _) _) _) _ _ _)); k_dflt (refine qg0 ?_)) | ((with_reducible show wpAny _ _ (eval (PySem.Expr.Attribute (PySem.Expr.Name _ _) _ _) _) _ _ _); k_dflt (refine qt0 ?_)) | (with_reducible refine qr0 ?_) | ((with_reducible show wpAny _ _ (setItem (Value.ref _) (Value.int _ _) _) _ _ _); (with_reducible (k_here; (with_reducible show wpAny _ _ (setItem (Value.ref _) (Value.int _ _) _) _ _ _); k_dflt (refine' set_here ?zzk1 ?zzk2 ?zzk3 ?zzk4 ?zzk5 ?zzk6 ?zzk7 ?_; (case zzk1 => k_asm); (case zzk2 => k_asm); (case zzk3 => k_upd); (case zzk4 => decide); (case zzk5 => simp; done); (case zzk6 => decide); (case zzk7 => exact rfl); k_whole); intro h' F' N'; (simp only [List.setIfInBounds_toArray, Int.toNat_zero, Int.reduceToNat, List.set_cons_zero, List.set_cons_succ] at N'); (try k_sweep)))) | ((with_reducible show wpAny _ _ (getMethod (Value.ref _) _ _) _ _ _); (with_reducible (k_here; k_dflt (first | (refine' method_inst ?zzk1 ?zzk2 ?zzk3 ?zzk4 ?zzk5 ?zzk6 ?zzk7 ?_; (case zzk1 => k_asm); (case zzk2 => k_asm); (case zzk3 => k_inst); (case zzk4 => k_is); (case zzk5 => k_is); (case zzk6 => k_is); (case zzk7 => k_get); k_whole) | (refine' kmu_own ?zzk1 ?zzk2 ?zzk3 ?zzk4 ?zzk5 ?_; (case zzk1 => k_asm); (case zzk2 => k_asm); (case zzk3 => k_inst); (case zzk4 => k_is); (case zzk5 => k_is); k_whole) | (refine' kmu_sm ?zzk1 ?zzk2 ?zzk4 ?zzk5 ?zzk6 ?zzk7 ?zzk8 ?zzk9 ?zzk10 ?zzk11 ?zzk12 ?zzk13 ?zzk14 ?_; (case zzk1 => k_asm); (case zzk2 => k_asm); (case zzk4 => k_inst); (case zzk5 => k_is); (case zzk6 => k_is); (case zzk7 => k_is); (case zzk8 => k_is); (case zzk9 => k_is); (case zzk10 => k_is); (case zzk11 => decide +kernel); (case zzk12 => k_get); (case zzk13 => k_is); (case zzk14 => k_handed); k_whole))))) | (k_end; wrow_close) | walk1 | dsimp only | (leave1; try dsimp only) | fail "no step")
  all_goals (try dsimp only)
  all_goals (try (k_unfold; dsimp only))
  · refine Done.intro (by k_asm) (by k_asm) ?_
    refine' ⟨_, _, _, _, _, _, _, rfl, ?ne, ?i1, ?i2, ?i3, ?i4, ?e1, ?e2⟩
    case e1 => (first | walk_at "mm" | k_mem)
    case e2 => (first | walk_at "mm" | k_mem)
    case ne => k_ne
    case i1 => exact .cons _ _ .nil
    case i2 => decide
    case i3 => decide
    case i4 => intro x hx; rw [List.mem_singleton.mp hx]; decide
  · refine Done.intro (by k_asm) (by k_asm) ?_
    refine' ⟨_, _, _, _, _, _, _, rfl, ?ne, ?i1, ?i2, ?i3, ?i4, ?e1, ?e2⟩
    case e1 => (first | walk_at "mm" | k_mem)
    case e2 => (first | walk_at "mm" | k_mem)
    case ne => k_ne
    case i1 => assumption
    case i2 => omega
    case i3 => rw [List.length_map, List.length_take]; omega
    case i4 =>
      intro x hx
      obtain ⟨k, _, rfl⟩ := List.mem_map.mp hx
      split <;> omega
end
theorem top_YTake : True := by
  w_top off
  trivial
set_option maxRecDepth 100000
set_option maxHeartbeats 8000000
set_option rowWalk.seconds 0
section
variable {w : World} {p : Program} {loose : List Str} {mean : ExcName → Option Value} {mg mb : Str → Option Value} {dp un : Nat} {gd : Option (List Code)} {cn : Str} {cs : Scope} {a : Addr} {ccd : Value} {cl : List (Str × Addr)} {outer : List Env} {A₀ : Around} {base h₀ : Heap} {L : Addr} {m : Str → Option Value} {news : List (Addr × Obj)} {s : Shared} {Q E : Value → Shared → Prop}

def TakeP (st ce : Addr) (k1 k2 : Nat) (n : Int) (len : Nat) (most : Int) (v : Value) (_h : Heap) (led : List (Addr × Obj)) : Prop :=
  ∃ r t n' tn' vs' ns', v = .int r t ∧ 0 ≤ r ∧ r < most ∧ n ≤ n' ∧ n' ≤ n + 1 ∧ IntsAre vs' ns' ∧ ns'.length = len ∧ (∀ x ∈ ns', 0 ≤ x) ∧ (st, listOf #[.int n' tn', .ref ce] k1) ∈ led ∧ (ce, listOf vs'.toArray k2) ∈ led
theorem take_con (B : Below A₀ base outer h₀) (F : Fr h₀ L s.heap m) (X : (hdK.heap_1_39 w.params).In h₀) (N : News h₀ L s.heap news) (T : Top p loose mean mg mb h₀) (hk : cs.kind = .function)
   (st ce : Addr) (n : Int) (tn : Tok) (k1 k2 : Nat) (vs : List Value) (ns : List Int) (most : Int) (tm : Tok)
   (m1 : (st, listOf #[.int n tn, .ref ce] k1) ∈ news) (m2 : (ce, listOf vs.toArray k2) ∈ news)
   (hI : IntsAre vs ns) (hpos : ∀ x ∈ ns, 0 ≤ x) (hne : 0 < ns.length) (hlen : ns.length ≤ 1048576) (hn0 : 0 ≤ n) (hn1 : n ≤ 1000000) (hm0 : 2 ≤ most) (hm1 : most ≤ 100000)
   (hsc : @Ne Nat st ce) (hd : dp + 10 < recursionLimit)
   (ret : ∀ v h' tk' led, (∀ p ∈ led, h'.get? p.1 = some p.2) → TakeP st ce k1 k2 n ns.length most v h' led → KeepsBut [st, ce] s.heap h' → Q v {s with heap := h', toks := tk'}) :
   wpAny (model (PySem.Challenge.rw_yi0033_01.row.toRowW.prog) w) (ktrTop dp un gd cn cs L a ccd cl outer) (call (.ref 687) [.ref st, .int most tm]) Q E s := by
  refine wpAny_call ?_
  have N1 : News h₀ L s.heap [(st, listOf #[.int n tn, .ref ce] k1), (ce, listOf vs.toArray k2)] := fun p hp => by
    rcases List.mem_cons.mp hp with rfl | hp
    · exact N _ m1
    · rcases List.mem_cons.mp hp with rfl | hp
      · exact N _ m2
      · cases hp
  k_dflt (refine' code_S (fun g => Done g s (TakeP st ce k1 k2 n ns.length most)) ?k1 ?k2 ?k3 N1 ?k5 ?kA ?kF ?kK ?k6 ?k7 ?k8 ?k9 ?kB ?_ ?fin ?c2 ?c3 ?c4 ?c5; ((case kA => exact rfl); (case kF => first | exact rfl | assumption); (case kK => assumption); (case k1 => k_asm); (case k2 => k_asm); (case k3 => k_asm); (case k5 => k_asm); (case k6 => k_is); (case k7 => k_is); (case k8 => ktr_room); (case k9 => first | exact BindsTo.of_eq rfl | exact binds_K (by k_in) rfl (by k_is) rfl rfl rfl); (case c5 => decide); (case kB => exact locs rfl); (case c2 => exact rfl); (case c3 => exact rfl); (case c4 => exact rfl)))
  case fin =>
    intro v s' d
    obtain ⟨h', tk, news', rfl, k, n, p⟩ := d.out
    exact ret _ _ _ _ (fun p hp => (n p hp).1) p k
  intro g' L' h' F' N' B' X' T' l1
  clear N1 N
  dsimp only
  k_fold
  repeat' (first | (k_unfold; (try dsimp only)) | ((with_reducible refine qb1 ?_); (try dsimp only)) | ((with_reducible refine qb2 ?_); (try dsimp only)) | ((with_reducible refine qa1 ?_); (try dsimp only)) | ((with_reducible refine qa2 ?_); (try dsimp only [List.cons_append, List.nil_append])) | ((with_reducible refine qs1 ?_); (try dsimp only)) | ((with_reducible refine qs2 ?_); (try dsimp only)) | (with_reducible refine qs3 ?_) | (with_reducible refine qs4 ?_) | ((with_reducible refine qc1 ?_); (try dsimp only)) | ((with_reducible refine qu1 ?_); (try dsimp only)) | (with_reducible refine qu2 ?_) | ((with_reducible refine qg1 ?_); (try dsimp only)) | (with_reducible refine qg2 ?_) | ((with_reducible refine qt1 ?_); (try dsimp only)) | ((with_reducible refine qr1 ?_); (try dsimp only)) | (with_reducible refine qb0 ?_) | (with_reducible refine qu0 ?_) | ((with_reducible show wpAny _ _ (spliced (backTo _ (starEach (_ :: _) _))) _ _ _); k_dflt (refine qa0 ?_)) | ((with_reducible show wpAny _ _ (execs (_ :: _) _) _ _ _); first | (k_here; k_gentoks) | (with_reducible refine qs0 ?_)) | ((with_reducible show wpAny _ _ (eval (PySem.Expr.Call (PySem.Expr.Name _ _) _ [] _) _) _ _ _); (fail_if_success (with_reducible show wpAny _ _ (eval _ (compEnvC _ _ _ _)) _ _ _)); k_dflt (refine qc0 ?_)) | ((with_reducible show wpAny _ _ (exec (Stmt.Assign [PySem.Expr.Name _ _] _ _) _) _ _ _); (fail_if_success (with_reducible show wpAny _ _ (exec (Stmt.Assign _ (PySem.Expr.ListComp _ _ _ _) _) _) _ _ _)); k_dflt (refine qg0 ?_)) | ((with_reducible show wpAny _ _ (eval (PySem.Expr.Attribute (PySem.Expr.Name _ _) _ _) _) _ _ _); k_dflt (refine qt0 ?_)) | (with_reducible refine qr0 ?_) | ((with_reducible show wpAny _ _ (setItem (Value.ref _) (Value.int _ _) _) _ _ _); (with_reducible (k_here; (with_reducible show wpAny _ _ (setItem (Value.ref _) (Value.int _ _) _) _ _ _); k_dflt (refine' set_here ?zzk1 ?zzk2 ?zzk3 ?zzk4 ?zzk5 ?zzk6 ?zzk7 ?_; (case zzk1 => k_asm); (case zzk2 => k_asm); (case zzk3 => k_upd); (case zzk4 => decide); (case zzk5 => simp; done); (case zzk6 => decide); (case zzk7 => exact rfl); k_whole); intro h' F' N'; (simp only [List.setIfInBounds_toArray, Int.toNat_zero, Int.reduceToNat, List.set_cons_zero, List.set_cons_succ] at N'); (try k_sweep)))) | ((with_reducible show wpAny _ _ (getMethod (Value.ref _) _ _) _ _ _); (with_reducible (k_here; k_dflt (first | (refine' method_inst ?zzk1 ?zzk2 ?zzk3 ?zzk4 ?zzk5 ?zzk6 ?zzk7 ?_; (case zzk1 => k_asm); (case zzk2 => k_asm); (case zzk3 => k_inst); (case zzk4 => k_is); (case zzk5 => k_is); (case zzk6 => k_is); (case zzk7 => k_get); k_whole) | (refine' kmu_own ?zzk1 ?zzk2 ?zzk3 ?zzk4 ?zzk5 ?_; (case zzk1 => k_asm); (case zzk2 => k_asm); (case zzk3 => k_inst); (case zzk4 => k_is); (case zzk5 => k_is); k_whole) | (refine' kmu_sm ?zzk1 ?zzk2 ?zzk4 ?zzk5 ?zzk6 ?zzk7 ?zzk8 ?zzk9 ?zzk10 ?zzk11 ?zzk12 ?zzk13 ?zzk14 ?_; (case zzk1 => k_asm); (case zzk2 => k_asm); (case zzk4 => k_inst); (case zzk5 => k_is); (case zzk6 => k_is); (case zzk7 => k_is); (case zzk8 => k_is); (case zzk9 => k_is); (case zzk10 => k_is); (case zzk11 => decide +kernel); (case zzk12 => k_get); (case zzk13 => k_is); (case zzk14 => k_handed); k_whole))))) | (k_end; wrow_close) | walk1 | dsimp only | (leave1; try dsimp only) | fail "no step")
  all_goals (try dsimp only)
  all_goals (try (k_unfold; dsimp only))
  · rename_i hbig _ _ _ _ hi' hl' _
    refine Done.intro (by k_asm) (by k_asm) ⟨_, _, n, tn, _, _, rfl, ?_, ?_, by omega, by omega, hi', hl', ?_, by (first | walk_at "mm" | k_mem), by (first | walk_at "mm" | k_mem)⟩
    · exact Int.fmod_nonneg (by omega) (by omega)
    · exact Int.fmod_lt_of_pos _ (by omega)
    · intro x hx
      rcases List.mem_or_eq_of_mem_set hx with hx | rfl
      · exact hpos x hx
      · exact Int.fdiv_nonneg (by omega) (by omega)
  · refine Done.intro (by k_asm) (by k_asm) ⟨_, _, n + 1, _, vs, ns, rfl, ?_, ?_, by omega, by omega, hI, rfl, hpos, by (first | walk_at "mm" | k_mem), by (first | walk_at "mm" | k_mem)⟩
    · exact Int.fmod_nonneg (Int.fdiv_nonneg (Int.fmod_nonneg_of_pos _ (by omega)) (by omega)) (by omega)
    · exact Int.fmod_lt_of_pos _ (by omega)

theorem UpdF.after {h₀ h h' : Heap} {L st ce : Addr} {news : List (Addr × Obj)} {g1 : Obj → List (Addr × Obj)} {g2 : Obj → Obj → List (Addr × Obj)} {o1 o2 : Obj} (N : News h₀ L h news)
    (U1 : UpdF st o1 news g1) (U2 : ∀ o, UpdF ce o2 (g1 o) (g2 o)) (k : KeepsBut [st, ce] h h') {p1 p2 : Obj} (e1 : h'.get? st = some p1) (e2 : h'.get? ce = some p2) : News h₀ L h' (g2 p1 p2) := by
  obtain ⟨a, b, e, hg, na, nb⟩ := U1.split
  obtain ⟨a', b', e', hg', na', nb'⟩ := (U2 p1).split
  subst e
  intro q hq
  rw [hg'] at hq
  have all : ∀ q ∈ a ++ (st, o1) :: b, h.get? q.1 = some q.2 ∧ q.1 ≠ L ∧ h₀.get? q.1 = none := N
  have hst := all (st, o1) (by simp)
  have old : ∀ q, q ∈ a' ++ (ce, o2) :: b' → q.1 ≠ ce → h'.get? q.1 = some q.2 ∧ q.1 ≠ L ∧ h₀.get? q.1 = none := by
    intro q hq hne
    rw [← e', hg] at hq
    rcases List.mem_append.mp hq with h1 | h1
    · have z := all q (List.mem_append_left _ h1)
      exact ⟨k _ _ z.1 (by simp [na q h1, hne]), z.2⟩
    · rcases List.mem_cons.mp h1 with rfl | h1
      · exact ⟨e1, hst.2⟩
      · have z := all q (List.mem_append_right _ (.tail _ h1))
        exact ⟨k _ _ z.1 (by simp [nb q h1, hne]), z.2⟩
  have hce : ce ≠ L ∧ h₀.get? ce = none := by
    have hm : (ce, o2) ∈ g1 p1 := by rw [e']; simp
    rw [hg] at hm
    rcases List.mem_append.mp hm with h1 | h1
    · exact (all _ (List.mem_append_left _ h1)).2
    · rcases List.mem_cons.mp h1 with h1 | h1
      · have e : ce = st := congrArg Prod.fst h1
        rw [e]; exact hst.2
      · exact (all (ce, o2) (List.mem_append_right _ (.tail _ h1))).2
  rcases List.mem_append.mp hq with h1 | h1
  · exact old q (List.mem_append_left _ h1) (na' q h1)
  · rcases List.mem_cons.mp h1 with rfl | h1
    · exact ⟨e2, hce⟩
    · exact old q (List.mem_append_right _ (.tail _ h1)) (nb' q h1)
theorem Fr.after2 {h₀ h h' : Heap} {L st ce : Addr} {m : Str → Option Value} {news : List (Addr × Obj)} {o1 o2 : Obj} (F : Fr h₀ L h m) (N : News h₀ L h news) (m1 : (st, o1) ∈ news) (m2 : (ce, o2) ∈ news) (k : KeepsBut [st, ce] h h') : Fr h₀ L h' m := by
  have z1 := (N _ m1).2
  have z2 := (N _ m2).2
  obtain ⟨o, es, ep, ho, r⟩ := F.ns
  refine ⟨⟨o, es, ep, k _ _ ho (by simp [Ne.symm z1.1, Ne.symm z2.1]), r⟩, fun b ob e => k _ _ (F.keep b ob e) ?_, F.above⟩
  intro hb
  rcases List.mem_cons.mp hb with rfl | hb
  · rw [z1.2] at e; cases e
  · rcases List.mem_cons.mp hb with rfl | hb
    · rw [z2.2] at e; cases e
    · cases hb
theorem UpdF.mem {d : Addr} {o : Obj} {l : List (Addr × Obj)} {g : Obj → List (Addr × Obj)} (U : UpdF d o l g) : (d, o) ∈ l := by
  obtain ⟨a, b, e, _⟩ := U.split
  rw [e]; simp
theorem UpdF.mem' {d c : Addr} {o o1 o' : Obj} {l : List (Addr × Obj)} {g : Obj → List (Addr × Obj)} (U : UpdF d o l g) (hm : (c, o1) ∈ g o') (hne : c ≠ d) : (c, o1) ∈ l := by
  obtain ⟨a, b, e, hg, _⟩ := U.split
  rw [hg] at hm
  rw [e]
  rcases List.mem_append.mp hm with h1 | h1
  · exact List.mem_append_left _ h1
  · rcases List.mem_cons.mp h1 with h1 | h1
    · exact absurd (congrArg Prod.fst h1) hne
    · exact List.mem_append_right _ (.tail _ h1)
theorem take_use {g1 : Obj → List (Addr × Obj)} {g2 : Obj → Obj → List (Addr × Obj)} (B : Below A₀ base outer h₀) (F : Fr h₀ L s.heap m) (X : (hdK.heap_1_39 w.params).In h₀) (N : News h₀ L s.heap news) (T : Top p loose mean mg mb h₀) (hk : cs.kind = .function)
   {st ce : Addr} {n : Int} {tn : Tok} {k1 k2 : Nat} {vs : List Value} {ns : List Int} {most : Int} {tm : Tok}
   (U1 : UpdF st (listOf #[.int n tn, .ref ce] k1) news g1) (U2 : ∀ o, UpdF ce (listOf vs.toArray k2) (g1 o) (g2 o))
   (hI : IntsAre vs ns) (hpos : ∀ x ∈ ns, 0 ≤ x) (hne : 0 < ns.length) (hlen : ns.length ≤ 1048576) (hn0 : 0 ≤ n) (hn1 : n ≤ 1000000) (hm0 : 2 ≤ most) (hm1 : most ≤ 100000)
   (hsc : @Ne Nat st ce) (hd : dp + 10 < recursionLimit)
   (ret : ∀ r t n' tn' vs' ns' h' tk', 0 ≤ r → r < most → n ≤ n' → n' ≤ n + 1 → IntsAre vs' ns' → ns'.length = ns.length → (∀ x ∈ ns', 0 ≤ x) →
      Fr h₀ L h' m → News h₀ L h' (g2 (listOf #[.int n' tn', .ref ce] k1) (listOf vs'.toArray k2)) → Q (.int r t) {s with heap := h', toks := tk'}) :
   wpAny (model (PySem.Challenge.rw_yi0033_01.row.toRowW.prog) w) (ktrTop dp un gd cn cs L a ccd cl outer) (call (.ref 687) [.ref st, .int most tm]) Q E s := by
  have m1 := UpdF.mem U1
  have m2 : (ce, listOf vs.toArray k2) ∈ news := UpdF.mem' U1 (UpdF.mem (U2 default)) (Ne.symm hsc)
  refine take_con B F X N T hk st ce n tn k1 k2 vs ns most tm m1 m2 hI hpos hne hlen hn0 hn1 hm0 hm1 hsc hd ?_
  rintro v h' tk' led hl ⟨r, t, n', tn', vs', ns', rfl, a1, a2, a3, a4, a5, a6, a7, a8, a9⟩ k
  exact ret r t n' tn' vs' ns' h' tk' a1 a2 a3 a4 a5 a6 a7 (Fr.after2 F N m1 m2 k) (UpdF.after N U1 U2 k (hl _ a8) (hl _ a9))
end
theorem top_YRoot : True := by
  w_top off
  trivial
set_option maxRecDepth 100000
set_option maxHeartbeats 8000000
set_option rowWalk.seconds 0
section
variable {w : World} {p : Program} {loose : List Str} {mean : ExcName → Option Value} {mg mb : Str → Option Value} {dp un : Nat} {gd : Option (List Code)} {cn : Str} {cs : Scope} {a : Addr} {ccd : Value} {cl : List (Str × Addr)} {outer : List Env} {A₀ : Around} {base h₀ : Heap} {L : Addr} {m : Str → Option Value} {news : List (Addr × Obj)} {s : Shared} {Q E : Value → Shared → Prop}
def tstep (q : Int × Int) : Int × Int := (2 * q.1 + Int.fmod q.2 2, Int.fdiv q.2 2)
def turned7 (p : Int) : Int := (tstep (tstep (tstep (tstep (tstep (tstep (tstep (0, p)))))))).1
def rootF (p : Int) : Int := (Builtin.powMod (((17 : Int) % ((3329 : Int).natAbs : Int))).toNat (2 * turned7 p + 1).natAbs (3329 : Int).natAbs : Nat)
theorem root_con (B : Below A₀ base outer h₀) (F : Fr h₀ L s.heap m) (X : (hdK.heap_1_39 w.params).In h₀) (T : Top p loose mean mg mb h₀) (hk : cs.kind = .function)
   (place : Int) (tk : Tok) (h0 : 0 ≤ place) (h1 : place < 128) (hd : dp + 10 < recursionLimit)
   (ret : ∀ t h' tk', s.heap.StaysIn h' → Q (.int (rootF place) t) {s with heap := h', toks := tk'}) :
   wpAny (model (PySem.Challenge.rw_yi0033_01.row.toRowW.prog) w) (ktrTop dp un gd cn cs L a ccd cl outer) (call (.ref 694) [.int place tk]) Q E s := by
  refine wpAny_call ?_
  k_dflt (refine' code_S (fun g => Done g s (fun v _ _ => ∃ t, v = .int (rootF place) t)) ?k1 ?k2 ?k3 (News.nil (L := L)) ?k5 ?kA ?kF ?kK ?k6 ?k7 ?k8 ?k9 ?kB ?_ ?fin ?c2 ?c3 ?c4 ?c5; ((case kA => exact rfl); (case kF => first | exact rfl | assumption); (case kK => assumption); (case k1 => k_asm); (case k2 => k_asm); (case k3 => k_asm); (case k5 => k_asm); (case k6 => k_is); (case k7 => k_is); (case k8 => ktr_room); (case k9 => first | exact BindsTo.of_eq rfl | exact binds_K (by k_in) rfl (by k_is) rfl rfl rfl); (case c5 => decide); (case kB => exact locs rfl); (case c2 => exact rfl); (case c3 => exact rfl); (case c4 => exact rfl)))
  case fin =>
    intro v s' d
    obtain ⟨h', tk, news', rfl, k, n, t, rfl⟩ := d.out
    exact ret _ _ _ k.stays
  intro g' L' h' F' N' B' X' T' l1
  dsimp only
  k_fold
  repeat' (first | (k_unfold; (try dsimp only)) | ((with_reducible refine qb1 ?_); (try dsimp only)) | ((with_reducible refine qb2 ?_); (try dsimp only)) | ((with_reducible refine qa1 ?_); (try dsimp only)) | ((with_reducible refine qa2 ?_); (try dsimp only [List.cons_append, List.nil_append])) | ((with_reducible refine qs1 ?_); (try dsimp only)) | ((with_reducible refine qs2 ?_); (try dsimp only)) | (with_reducible refine qs3 ?_) | (with_reducible refine qs4 ?_) | ((with_reducible refine qc1 ?_); (try dsimp only)) | ((with_reducible refine qu1 ?_); (try dsimp only)) | (with_reducible refine qu2 ?_) | ((with_reducible refine qg1 ?_); (try dsimp only)) | (with_reducible refine qg2 ?_) | ((with_reducible refine qt1 ?_); (try dsimp only)) | ((with_reducible refine qr1 ?_); (try dsimp only)) | (with_reducible refine qb0 ?_) | (with_reducible refine qu0 ?_) | ((with_reducible show wpAny _ _ (spliced (backTo _ (starEach (_ :: _) _))) _ _ _); k_dflt (refine qa0 ?_)) | ((with_reducible show wpAny _ _ (execs (_ :: _) _) _ _ _); first | (k_here; k_gentoks) | (with_reducible refine qs0 ?_)) | ((with_reducible show wpAny _ _ (eval (PySem.Expr.Call (PySem.Expr.Name _ _) _ [] _) _) _ _ _); (fail_if_success (with_reducible show wpAny _ _ (eval _ (compEnvC _ _ _ _)) _ _ _)); k_dflt (refine qc0 ?_)) | ((with_reducible show wpAny _ _ (exec (Stmt.Assign [PySem.Expr.Name _ _] _ _) _) _ _ _); (fail_if_success (with_reducible show wpAny _ _ (exec (Stmt.Assign _ (PySem.Expr.ListComp _ _ _ _) _) _) _ _ _)); k_dflt (refine qg0 ?_)) | ((with_reducible show wpAny _ _ (eval (PySem.Expr.Attribute (PySem.Expr.Name _ _) _ _) _) _ _ _); k_dflt (refine qt0 ?_)) | (with_reducible refine qr0 ?_) | ((with_reducible show wpAny _ _ (call (Value.builtin "pow") _ _) _ _ _); (first | (with_reducible (refine pow3 (gives_pow3 _ _ _ _ _ _ ?_ (by decide) (by decide) (by decide)) ?_; rotate_left)) | (refine pow3 (gives_pow3 _ _ _ _ _ _ ?_ (by decide) (by decide) (by decide)) ?_; rotate_left))) | ((with_reducible show wpAny _ _ (getMethod (Value.ref _) _ _) _ _ _); (with_reducible (k_here; k_dflt (first | (refine' method_inst ?zzk1 ?zzk2 ?zzk3 ?zzk4 ?zzk5 ?zzk6 ?zzk7 ?_; (case zzk1 => k_asm); (case zzk2 => k_asm); (case zzk3 => k_inst); (case zzk4 => k_is); (case zzk5 => k_is); (case zzk6 => k_is); (case zzk7 => k_get); k_whole) | (refine' kmu_own ?zzk1 ?zzk2 ?zzk3 ?zzk4 ?zzk5 ?_; (case zzk1 => k_asm); (case zzk2 => k_asm); (case zzk3 => k_inst); (case zzk4 => k_is); (case zzk5 => k_is); k_whole) | (refine' kmu_sm ?zzk1 ?zzk2 ?zzk4 ?zzk5 ?zzk6 ?zzk7 ?zzk8 ?zzk9 ?zzk10 ?zzk11 ?zzk12 ?zzk13 ?zzk14 ?_; (case zzk1 => k_asm); (case zzk2 => k_asm); (case zzk4 => k_inst); (case zzk5 => k_is); (case zzk6 => k_is); (case zzk7 => k_is); (case zzk8 => k_is); (case zzk9 => k_is); (case zzk10 => k_is); (case zzk11 => decide +kernel); (case zzk12 => k_get); (case zzk13 => k_is); (case zzk14 => k_handed); k_whole))))) | (k_end; wrow_close) | walk1 | dsimp only | (leave1; try dsimp only) | fail "no step")
  · exact Done.intro (by k_asm) (by k_asm) ⟨_, rfl⟩
  · have e1 : ∀ x : Int, Int.fmod x 2 = x % 2 := fun x => Int.fmod_eq_emod_of_nonneg x (by decide)
    simp only [e1]
    omega
end
set_option maxRecDepth 100000
set_option maxHeartbeats 8000000
set_option rowWalk.seconds 0

abbrev brM (i : Int) : Int := PySem.Builtin.bitAnd i (2 ^ (7 : Int).toNat - 1)
abbrev brT (i : Int) : Str := baseText "0b" 2 (brM i)
abbrev brU (i : Int) : Str := Txt.slice (brT i) (some 2) none
abbrev brZ (i : Int) : Str := Txt.zfill (brU i) 7
def brR (i : Int) : Str := ⟨((slicePicked (brZ i) none none (some (-1, 0))).filterMap ((brZ i).cps[·]?)).toArray⟩
/-- the seven signs written out, the lowest first -/
def brC (i : Int) : Str := ⟨#[48 + (i % 2).toNat, 48 + (i / 2 % 2).toNat, 48 + (i / 4 % 2).toNat, 48 + (i / 8 % 2).toNat, 48 + (i / 16 % 2).toNat, 48 + (i / 32 % 2).toNat, 48 + (i / 64 % 2).toNat]⟩
def brW (i : Int) : List Nat := (brC i).cps.toList.takeWhile (· != 0)
def brD (i : Int) : Option (Array Nat) := NumText.digits? 2 (((NumText.based 2 (NumText.sign ((brW i).dropWhile NumText.blank)).2).2.2.reverse.dropWhile NumText.blank).reverse)
def brF (i : Int) : Int := (((brD i).getD #[]).foldl (fun acc d => acc * 2 + d) 0 : Nat)
theorem all128 {P : Int → Prop} (h : ∀ i : Fin 128, P ((i.val : Nat) : Int)) {i : Int} (h0 : 0 ≤ i) (h1 : i < 128) : P i := by
  have := h ⟨i.toNat, by omega⟩
  rwa [show (((⟨i.toNat, by omega⟩ : Fin 128).val : Nat) : Int) = i from by simp only []; omega] at this
theorem brR_eq {i : Int} (h0 : 0 ≤ i) (h1 : i < 128) : brR i = brC i := all128 (P := fun i => brR i = brC i) (by decide +kernel) h0 h1
theorem brT_fits {i : Int} (h0 : 0 ≤ i) (h1 : i < 128) : (brT i).length ≤ sizeLine := by
  have e : (brT i).length ≤ 9 := all128 (P := fun i => (brT i).length ≤ 9) (by decide +kernel) h0 h1
  rw [sizeLine_eq]; omega
theorem brZ_len {i : Int} (h0 : 0 ≤ i) (h1 : i < 128) : (brZ i).length = 7 := all128 (P := fun i => (brZ i).length = 7) (by decide +kernel) h0 h1
theorem brR_len {i : Int} (h0 : 0 ≤ i) (h1 : i < 128) : (brR i).length ≤ sizeLine := by
  have e : (brR i).length = 7 := by rw [brR_eq h0 h1]; rfl
  rw [sizeLine_eq, e]; omega
theorem brR_ascii {i : Int} (h0 : 0 ≤ i) (h1 : i < 128) : (brR i).cps.all (· < 128) = true := by rw [brR_eq h0 h1]; exact all128 (P := fun i => (brC i).cps.all (· < 128) = true) (by decide +kernel) h0 h1
theorem brR_short {i : Int} (h0 : 0 ≤ i) (h1 : i < 128) : ((brR i).cps.toList.takeWhile (· != 0)).length ≤ 640 := by rw [brR_eq h0 h1]; exact all128 (P := fun i => ((brC i).cps.toList.takeWhile (· != 0)).length ≤ 640) (by decide +kernel) h0 h1
theorem brR_whole {i : Int} (h0 : 0 ≤ i) (h1 : i < 128) : (((brR i).cps.toList.takeWhile (· != 0)).length == (brR i).cps.toList.length) = true := by rw [brR_eq h0 h1]; exact all128 (P := fun i => (((brC i).cps.toList.takeWhile (· != 0)).length == (brC i).cps.toList.length) = true) (by decide +kernel) h0 h1
theorem judge_two (ds : Array Nat) : NumText.judge 0 false 2 false (some ds) = (int_private% "Numeral.value") ((ds.foldl (fun acc d => acc * 2 + d) 0 : Nat) : Int) := rfl
theorem reads_gen (W : List Nat) (ds : Array Nat) (n : Int) (e1 : (NumText.sign (W.dropWhile NumText.blank)).1 = false) (e2 : (NumText.based 2 (NumText.sign (W.dropWhile NumText.blank)).2).1 = 2)
    (e3 : (NumText.based 2 (NumText.sign (W.dropWhile NumText.blank)).2).2.1 = false)
    (e4 : NumText.digits? 2 (((NumText.based 2 (NumText.sign (W.dropWhile NumText.blank)).2).2.2.reverse.dropWhile NumText.blank).reverse) = some ds) (hn : n = ((ds.foldl (fun acc d => acc * 2 + d) 0 : Nat) : Int)) :
    (int_private% "readNumeral") 0 2 W = (int_private% "Numeral.value") n := by
  refine (NumText.readNumeral_eq 0 2 W).trans ?_
  rw [e1, e2, e3, e4, hn]
  exact judge_two ds
theorem brR_reads {i : Int} (h0 : 0 ≤ i) (h1 : i < 128) : (int_private% "readNumeral") 0 2 ((brR i).cps.toList.takeWhile (· != 0)) = (int_private% "Numeral.value") (brF i) := by
  rw [brR_eq h0 h1]
  exact reads_gen (brW i) ((brD i).getD #[]) (brF i)
    (all128 (P := fun i => (NumText.sign ((brW i).dropWhile NumText.blank)).1 = false) (by decide +kernel) h0 h1)
    (all128 (P := fun i => (NumText.based 2 (NumText.sign ((brW i).dropWhile NumText.blank)).2).1 = 2) (by decide +kernel) h0 h1)
    (all128 (P := fun i => (NumText.based 2 (NumText.sign ((brW i).dropWhile NumText.blank)).2).2.1 = false) (by decide +kernel) h0 h1)
    (all128 (P := fun i => NumText.digits? 2 (((NumText.based 2 (NumText.sign ((brW i).dropWhile NumText.blank)).2).2.2.reverse.dropWhile NumText.blank).reverse) = some ((brD i).getD #[])) (by decide +kernel) h0 h1)
    (by unfold brF; rfl)
theorem brF_range {i : Int} (h0 : 0 ≤ i) (h1 : i < 128) : 0 ≤ brF i ∧ brF i < 128 := all128 (P := fun i => 0 ≤ brF i ∧ brF i < 128) (by decide +kernel) h0 h1
section
variable {prog : Program} {w : World} {A : Around} {E : Value → Shared → Prop} {s : Shared} {h₀ : Heap} {L : Addr} {m : Str → Option Value} {news : List (Addr × Obj)} {value slice : PySem.Expr} {x : Str} {t : Tok} {Q : Value → Shared → Prop}
theorem slice_rev {uj : Tok} (hF : Fr h₀ L s.heap m) (hN : News h₀ L s.heap news) (hsz : (⟨((slicePicked x none none (some (-1, 0))).filterMap (x.cps[·]?)).toArray⟩ : Str).length ≤ sizeLine)
    (h : ∀ h' t' k, Fr h₀ L h' m → News h₀ L h' news → Q (.str ⟨((slicePicked x none none (some (-1, 0))).filterMap (x.cps[·]?)).toArray⟩ t') { s with heap := h', toks := k })
    (hs : subscripted slice false (.str x t) (.ref s.heap.objs.size) = operate [.ref s.heap.objs.size, .str x t] (getItem (.str x t) (.ref s.heap.objs.size)))
    (ht : ∀ r, letTemporaryGo value (.str x t) r = pure ()) :
    wpAny (model prog w) A (subscriptTail value slice (.str x t) (.ref s.heap.objs.size)) Q E { s with heap := s.heap.push { cls := .type "slice", data := .fields #[.none, .none, .int (-1) uj] } } :=
  tail_of_ItemOn ⟨"str", _, F.slot_str_getitem.lookup, typeIs_str _ _ _, wpAny_getItem_str_slice (l := none) (u := none) (st := some (-1, uj)) ⟨_, Heap.get?_push_size _ rfl, rfl, rfl⟩ rfl
    ⟨hsz, h _ _ _ (hF.push _) (fun p hp => (hN.push hF _) p (.tail _ hp))⟩⟩ hs ht
theorem slice_rev_br {i : Int} {uj : Tok} (h0 : 0 ≤ i) (h1 : i < 128) (hF : Fr h₀ L s.heap m) (hN : News h₀ L s.heap news)
    (h : ∀ h' t' k, Fr h₀ L h' m → News h₀ L h' news → Q (.str (brR i) t') { s with heap := h', toks := k })
    (hs : subscripted slice false (.str (brZ i) t) (.ref s.heap.objs.size) = operate [.ref s.heap.objs.size, .str (brZ i) t] (getItem (.str (brZ i) t) (.ref s.heap.objs.size)))
    (ht : ∀ r, letTemporaryGo value (.str (brZ i) t) r = pure ()) :
    wpAny (model prog w) A (subscriptTail value slice (.str (brZ i) t) (.ref s.heap.objs.size)) Q E { s with heap := s.heap.push { cls := .type "slice", data := .fields #[.none, .none, .int (-1) uj] } } :=
  slice_rev hF hN (brR_len h0 h1) h hs ht
theorem int_text_br {i : Int} {u t : Tok} (h0 : 0 ≤ i) (h1 : i < 128) (h : Q (.int (brF i) s.toks) { s with toks := s.toks + 1 }) :
    wpAny (model prog w) A (call (.type "int") [.str (brR i) u, .int 2 t]) Q E s :=
  int_text2 (x := brR i) (brR_ascii h0 h1) (brR_short h0 h1) (brR_reads h0 h1) (brR_whole h0 h1) h
end
theorem top_YBr : True := by
  w_top off
  trivial
set_option maxRecDepth 100000
set_option maxHeartbeats 8000000
set_option rowWalk.seconds 0
section
variable {w : World} {p : Program} {loose : List Str} {mean : ExcName → Option Value} {mg mb : Str → Option Value} {dp un : Nat} {gd : Option (List Code)} {cn : Str} {cs : Scope} {a : Addr} {ccd : Value} {cl : List (Str × Addr)} {outer : List Env} {A₀ : Around} {base h₀ : Heap} {L : Addr} {m : Str → Option Value} {news : List (Addr × Obj)} {s : Shared} {Q E : Value → Shared → Prop}

theorem br_con (B : Below A₀ base outer h₀) (F : Fr h₀ L s.heap m) (X : (hdK.heap_1_39 w.params).In h₀) (T : Top p loose mean mg mb h₀) (hk : cs.kind = .function)
   (i : Int) (tk tk2 : Tok) (h0 : 0 ≤ i) (h1 : i < 128) (hd : dp + 10 < recursionLimit)
   (ret : ∀ t h' tk', s.heap.StaysIn h' → Q (.int (brF i) t) {s with heap := h', toks := tk'}) :
   wpAny (model (PySem.Challenge.rw_yi0033_01.row.toRowW.prog) w) (ktrTop dp un gd cn cs L a ccd cl outer) (call (.ref 400) [.int i tk, .int 7 tk2]) Q E s := by
  refine wpAny_call ?_
  k_dflt (refine' code_S (fun g => Done g s (fun v _ _ => ∃ t, v = .int (brF i) t)) ?k1 ?k2 ?k3 (News.nil (L := L)) ?k5 ?kA ?kF ?kK ?k6 ?k7 ?k8 ?k9 ?kB ?_ ?fin ?c2 ?c3 ?c4 ?c5; ((case kA => exact rfl); (case kF => first | exact rfl | assumption); (case kK => assumption); (case k1 => k_asm); (case k2 => k_asm); (case k3 => k_asm); (case k5 => k_asm); (case k6 => k_is); (case k7 => k_is); (case k8 => ktr_room); (case k9 => first | exact BindsTo.of_eq rfl | exact binds_K (by k_in) rfl (by k_is) rfl rfl rfl); (case c5 => decide); (case kB => exact locs rfl); (case c2 => exact rfl); (case c3 => exact rfl); (case c4 => exact rfl)))
  case fin =>
    intro v s' d
    obtain ⟨h', tk, news', rfl, k, n, t, rfl⟩ := d.out
    exact ret _ _ _ k.stays
  intro g' L' h' F' N' B' X' T' l1
  dsimp only
  k_fold
  repeat' (first | (k_unfold; (try dsimp only)) | ((with_reducible refine qb1 ?_); (try dsimp only)) | ((with_reducible refine qb2 ?_); (try dsimp only)) | ((with_reducible refine qa1 ?_); (try dsimp only)) | ((with_reducible refine qa2 ?_); (try dsimp only [List.cons_append, List.nil_append])) | ((with_reducible refine qs1 ?_); (try dsimp only)) | ((with_reducible refine qs2 ?_); (try dsimp only)) | (with_reducible refine qs3 ?_) | (with_reducible refine qs4 ?_) | ((with_reducible refine qc1 ?_); (try dsimp only)) | ((with_reducible refine qu1 ?_); (try dsimp only)) | (with_reducible refine qu2 ?_) | ((with_reducible refine qg1 ?_); (try dsimp only)) | (with_reducible refine qg2 ?_) | ((with_reducible refine qt1 ?_); (try dsimp only)) | ((with_reducible refine qr1 ?_); (try dsimp only)) | (with_reducible refine qb0 ?_) | (with_reducible refine qu0 ?_) | ((with_reducible show wpAny _ _ (spliced (backTo _ (starEach (_ :: _) _))) _ _ _); k_dflt (refine qa0 ?_)) | ((with_reducible show wpAny _ _ (execs (_ :: _) _) _ _ _); first | (k_here; k_gentoks) | (with_reducible refine qs0 ?_)) | ((with_reducible show wpAny _ _ (eval (PySem.Expr.Call (PySem.Expr.Name _ _) _ [] _) _) _ _ _); (fail_if_success (with_reducible show wpAny _ _ (eval _ (compEnvC _ _ _ _)) _ _ _)); k_dflt (refine qc0 ?_)) | ((with_reducible show wpAny _ _ (exec (Stmt.Assign [PySem.Expr.Name _ _] _ _) _) _ _ _); (fail_if_success (with_reducible show wpAny _ _ (exec (Stmt.Assign _ (PySem.Expr.ListComp _ _ _ _) _) _) _ _ _)); k_dflt (refine qg0 ?_)) | ((with_reducible show wpAny _ _ (eval (PySem.Expr.Attribute (PySem.Expr.Name _ _) _ _) _) _ _ _); k_dflt (refine qt0 ?_)) | (with_reducible refine qr0 ?_) | ((with_reducible show wpAny _ _ (call (Value.type "int") _ _) _ _ _); (first | (with_reducible ((with_reducible refine int_text_br (by assumption) (by assumption) ?_))) | ((with_reducible refine int_text_br (by assumption) (by assumption) ?_)))) | ((with_reducible show wpAny _ _ (call (Value.builtin "str.zfill") _ _) _ _ _); (first | (with_reducible ((refine SC.zfill (by decide) ?_); intro _ _)) | ((refine SC.zfill (by decide) ?_); intro _ _))) | ((with_reducible show wpAny _ _ (subscriptTail _ _ _ _) _ _ _); (first | (with_reducible (k_here; (with_reducible show wpAny _ _ (subscriptTail _ (Expr.Slice none none (some _) _) (Value.str _ _) (Value.ref _)) _ _ _); (with_reducible rename Fr _ _ _ _ => F'); (with_reducible rename News _ _ _ _ => N'); (refine slice_rev_br (s := ⟨_, _, _, _, _⟩) (by assumption) (by assumption) F' N' ?_ (by with_unfolding_all rfl) (by intro _; with_unfolding_all rfl)); intro _ _ _ _ _)) | (k_here; (with_reducible show wpAny _ _ (subscriptTail _ (Expr.Slice none none (some _) _) (Value.str _ _) (Value.ref _)) _ _ _); (with_reducible rename Fr _ _ _ _ => F'); (with_reducible rename News _ _ _ _ => N'); (refine slice_rev_br (s := ⟨_, _, _, _, _⟩) (by assumption) (by assumption) F' N' ?_ (by with_unfolding_all rfl) (by intro _; with_unfolding_all rfl)); intro _ _ _ _ _))) | ((with_reducible show wpAny _ _ (subscriptTail _ _ _ _) _ _ _); (first | (with_reducible (k_here; (with_reducible show wpAny _ _ (subscriptTail _ (Expr.Slice (some _) none none _) (Value.str _ _) (Value.ref _)) _ _ _); (with_reducible rename Fr _ _ _ _ => F'); (with_reducible rename News _ _ _ _ => N'); (refine slice_strN_sn (hsz := brT_fits (by assumption) (by assumption)) (s := ⟨_, _, _, _, _⟩) F' N' ?_); intro _ _ _ _ _)) | (k_here; (with_reducible show wpAny _ _ (subscriptTail _ (Expr.Slice (some _) none none _) (Value.str _ _) (Value.ref _)) _ _ _); (with_reducible rename Fr _ _ _ _ => F'); (with_reducible rename News _ _ _ _ => N'); (refine slice_strN_sn (hsz := brT_fits (by assumption) (by assumption)) (s := ⟨_, _, _, _, _⟩) F' N' ?_); intro _ _ _ _ _))) | ((with_reducible show wpAny _ _ (call (Value.builtin "bin") _ _) _ _ _); (first | (with_reducible (with_reducible refine P.bin_of_int ?_ (brT_fits (by assumption) (by assumption)))) | (with_reducible refine P.bin_of_int ?_ (brT_fits (by assumption) (by assumption))))) | ((with_reducible show wpAny _ _ (setItem (Value.ref _) (Value.int _ _) _) _ _ _); (with_reducible (k_here; (with_reducible show wpAny _ _ (setItem (Value.ref _) (Value.int _ _) _) _ _ _); k_dflt (refine' set_here ?zzk1 ?zzk2 ?zzk3 ?zzk4 ?zzk5 ?zzk6 ?zzk7 ?_; (case zzk1 => k_asm); (case zzk2 => k_asm); (case zzk3 => k_upd); (case zzk4 => decide); (case zzk5 => simp; done); (case zzk6 => decide); (case zzk7 => exact rfl); k_whole); intro h' F' N'; (simp only [List.setIfInBounds_toArray, Int.toNat_zero, Int.reduceToNat, List.set_cons_zero, List.set_cons_succ] at N'); (try k_sweep)))) | ((with_reducible show wpAny _ _ (getMethod (Value.ref _) _ _) _ _ _); (with_reducible (k_here; k_dflt (first | (refine' method_inst ?zzk1 ?zzk2 ?zzk3 ?zzk4 ?zzk5 ?zzk6 ?zzk7 ?_; (case zzk1 => k_asm); (case zzk2 => k_asm); (case zzk3 => k_inst); (case zzk4 => k_is); (case zzk5 => k_is); (case zzk6 => k_is); (case zzk7 => k_get); k_whole) | (refine' kmu_own ?zzk1 ?zzk2 ?zzk3 ?zzk4 ?zzk5 ?_; (case zzk1 => k_asm); (case zzk2 => k_asm); (case zzk3 => k_inst); (case zzk4 => k_is); (case zzk5 => k_is); k_whole) | (refine' kmu_sm ?zzk1 ?zzk2 ?zzk4 ?zzk5 ?zzk6 ?zzk7 ?zzk8 ?zzk9 ?zzk10 ?zzk11 ?zzk12 ?zzk13 ?zzk14 ?_; (case zzk1 => k_asm); (case zzk2 => k_asm); (case zzk4 => k_inst); (case zzk5 => k_is); (case zzk6 => k_is); (case zzk7 => k_is); (case zzk8 => k_is); (case zzk9 => k_is); (case zzk10 => k_is); (case zzk11 => decide +kernel); (case zzk12 => k_get); (case zzk13 => k_is); (case zzk14 => k_handed); k_whole))))) | (k_end; wrow_close) | walk1 | dsimp only | (leave1; try dsimp only) | fail "no step")
  exact Done.intro (by k_asm) (by k_asm) ⟨_, rfl⟩
end
theorem top_YFull : True := by
  w_top off
  trivial
set_option maxRecDepth 100000
set_option maxHeartbeats 8000000
set_option rowWalk.seconds 0
local macro_rules | `(tactic| mul_fits) => `(tactic| exact fit_k (by assumption) (by assumption) (by decide))
section
variable {w : World} {p : Program} {loose : List Str} {mean : ExcName → Option Value} {mg mb : Str → Option Value} {dp un : Nat} {gd : Option (List Code)} {cn : Str} {cs : Scope} {a : Addr} {ccd : Value} {cl : List (Str × Addr)} {outer : List Env} {A₀ : Around} {base h₀ : Heap} {L : Addr} {m : Str → Option Value} {news : List (Addr × Obj)} {s : Shared} {Q E : Value → Shared → Prop}

def FullP (st ce : Addr) (k1 k2 : Nat) (n : Int) (len : Nat) (v : Value) (_h : Heap) (led : List (Addr × Obj)) : Prop :=
  ∃ a ys c kk n' tn' vs' ns', v = .ref a ∧ @Ne Nat a st ∧ @Ne Nat a ce ∧ (a, listOf ys.toArray kk) ∈ led ∧ IntsAre ys c ∧ Row256 c ∧ n ≤ n' ∧ n' ≤ n + 3 ∧ IntsAre vs' ns' ∧ ns'.length = len ∧ (∀ x ∈ ns', 0 ≤ x) ∧ (st, listOf #[.int n' tn', .ref ce] k1) ∈ led ∧ (ce, listOf vs'.toArray k2) ∈ led
theorem full_con (B : Below A₀ base outer h₀) (F : Fr h₀ L s.heap m) (X : (hdK.heap_1_39 w.params).In h₀) (N : News h₀ L s.heap news) (T : Top p loose mean mg mb h₀) (hk : cs.kind = .function)
   (st ce : Addr) (n : Int) (tn : Tok) (k1 k2 : Nat) (vs : List Value) (ns : List Int)
   (m1 : (st, listOf #[.int n tn, .ref ce] k1) ∈ news) (m2 : (ce, listOf vs.toArray k2) ∈ news)
   (hI : IntsAre vs ns) (hpos : ∀ x ∈ ns, 0 ≤ x) (hne : 0 < ns.length) (hlen : ns.length ≤ 1048576) (hn0 : 0 ≤ n) (hn1 : n ≤ 900000)
   (hsc : @Ne Nat st ce) (hd : dp + 20 < recursionLimit)
   (ret : ∀ v h' tk' led, (∀ p ∈ led, h'.get? p.1 = some p.2 ∧ (p.1 ∈ [st, ce] ∨ s.heap.get? p.1 = none)) → FullP st ce k1 k2 n ns.length v h' led → KeepsBut [st, ce] s.heap h' → Q v {s with heap := h', toks := tk'}) :
   wpAny (model (PySem.Challenge.rw_yi0033_01.row.toRowW.prog) w) (ktrTop dp un gd cn cs L a ccd cl outer) (call (.ref 699) [.ref st]) Q E s := by
  refine wpAny_call ?_
  have N1 : News h₀ L s.heap [(st, listOf #[.int n tn, .ref ce] k1), (ce, listOf vs.toArray k2)] := fun p hp => by
    rcases List.mem_cons.mp hp with rfl | hp
    · exact N _ m1
    · rcases List.mem_cons.mp hp with rfl | hp
      · exact N _ m2
      · cases hp
  k_dflt (refine' code_SC (fun g => Done g s (FullP st ce k1 k2 n ns.length)) ?k1 ?k2 ?k3 N1 ?k5 ?kA ?kF ?kK ?k6 ?k7 ?k8 ?k9 ?kB ?kD ?_ ?fin ?c2 ?c3 ?c4; ((case kA => exact rfl); (case kF => first | exact rfl | assumption); (case kK => assumption); (case k1 => k_asm); (case k2 => k_asm); (case k3 => k_asm); (case k5 => k_asm); (case k6 => k_is); (case k7 => k_is); (case k8 => ktr_room); (case k9 => first | exact BindsTo.of_eq rfl | exact binds_K (by k_in) rfl (by k_is) rfl rfl rfl); (case kB => exact rfl); (case kD => decide +kernel); (case c2 => exact rfl); (case c3 => exact rfl); (case c4 => exact rfl)))
  case fin =>
    intro v s' d
    obtain ⟨h', tk, news', rfl, k, n, p⟩ := d.out
    exact ret _ _ _ _ n p k
  intro g' L' h' tk' cells' F' N' Y' B' X' T' l1
  clear N1 N
  have l1' := l1
  k_lt l1
  k_cells Y'
  have gL1 := gnc1 l1'
  have gL2 := gnc2 l1'
  have gL3 := gnc3 l1'
  simp only [List.cons_append, List.nil_append] at N'
  with_reducible show wpAny _ _ _ _ _ _
  k_fold
  repeat' (first | (k_unfold; (try dsimp only)) | ((with_reducible refine qb1 ?_); (try dsimp only)) | ((with_reducible refine qb2 ?_); (try dsimp only)) | ((with_reducible refine qa1 ?_); (try dsimp only)) | ((with_reducible refine qa2 ?_); (try dsimp only [List.cons_append, List.nil_append])) | ((with_reducible refine qs1 ?_); (try dsimp only)) | ((with_reducible refine qs2 ?_); (try dsimp only)) | (with_reducible refine qs3 ?_) | (with_reducible refine qs4 ?_) | ((with_reducible refine qc1 ?_); (try dsimp only)) | ((with_reducible refine qu1 ?_); (try dsimp only)) | (with_reducible refine qu2 ?_) | ((with_reducible refine qg1 ?_); (try dsimp only)) | (with_reducible refine qg2 ?_) | ((with_reducible refine qt1 ?_); (try dsimp only)) | ((with_reducible refine qr1 ?_); (try dsimp only)) | (with_reducible refine qb0 ?_) | (with_reducible refine qu0 ?_) | ((with_reducible show wpAny _ _ (spliced (backTo _ (starEach (_ :: _) _))) _ _ _); k_dflt (refine qa0 ?_)) | ((with_reducible show wpAny _ _ (execs (_ :: _) _) _ _ _); first | (k_here; k_gentoks) | (with_reducible refine qs0 ?_)) | ((with_reducible show wpAny _ _ (eval (PySem.Expr.Call (PySem.Expr.Name _ _) _ [] _) _) _ _ _); (fail_if_success (with_reducible show wpAny _ _ (eval _ (compEnvC _ _ _ _)) _ _ _)); k_dflt (refine qc0 ?_)) | ((with_reducible show wpAny _ _ (exec (Stmt.Assign [PySem.Expr.Name _ _] _ _) _) _ _ _); (fail_if_success (with_reducible show wpAny _ _ (exec (Stmt.Assign _ (PySem.Expr.ListComp _ _ _ _) _) _) _ _ _)); k_dflt (refine qg0 ?_)) | ((with_reducible show wpAny _ _ (eval (PySem.Expr.Attribute (PySem.Expr.Name _ _) _ _) _) _ _ _); k_dflt (refine qt0 ?_)) | (with_reducible refine qr0 ?_) | ((with_reducible show wpAny _ _ (call (Value.ref _) _ _) _ _ _); first | (with_reducible (k_here; (with_reducible show wpAny _ _ (call (Value.ref 687) _) _ _ _); k_dflt (refine' take_use ?zzk1 ?zzk2 ?zzk3 ?zzk4 ?zzk5 ?zzk6 ?zzu1 ?zzu2 ?zzi1 ?zzi2 ?zzi3 ?zzi4 ?zzi5 ?zzi6 ?zzi7 ?zzi8 ?zzi9 ?zzd1 ?_; (case zzk1 => k_asm); (case zzk2 => k_asm); (case zzk3 => k_asm); (case zzk4 => k_asm); (case zzk5 => k_asm); (case zzk6 => first | exact rfl | assumption); (case zzu1 => k_updF); (case zzu2 => (intro o9; (try dsimp only); k_updF)); (case zzi1 => assumption); (case zzi2 => assumption); (case zzi3 => omega); (case zzi4 => omega); (case zzi5 => omega); (case zzi6 => omega); (case zzi7 => omega); (case zzi8 => omega); (case zzi9 => k_ne); (case zzd1 => ktr_room); k_whole); (intro r9 t9 n9 tn9 vs9 ns9 h9 tk9 ra9 rb9 na9 nb9 hi9 hl9 hp9 F9 N9); (try dsimp only at N9); (try k_sweep)))) | ((with_reducible show wpAny _ _ (setItem (Value.ref _) (Value.int _ _) _) _ _ _); (with_reducible (k_here; (with_reducible show wpAny _ _ (setItem (Value.ref _) (Value.int _ _) _) _ _ _); k_dflt (refine' set_here ?zzk1 ?zzk2 ?zzk3 ?zzk4 ?zzk5 ?zzk6 ?zzk7 ?_; (case zzk1 => k_asm); (case zzk2 => k_asm); (case zzk3 => k_upd); (case zzk4 => decide); (case zzk5 => simp; done); (case zzk6 => decide); (case zzk7 => exact rfl); k_whole); intro h' F' N'; (simp only [List.setIfInBounds_toArray, Int.toNat_zero, Int.reduceToNat, List.set_cons_zero, List.set_cons_succ] at N'); (try k_sweep)))) | ((with_reducible show wpAny _ _ (getMethod (Value.ref _) _ _) _ _ _); (with_reducible (k_here; k_dflt (first | (refine' method_inst ?zzk1 ?zzk2 ?zzk3 ?zzk4 ?zzk5 ?zzk6 ?zzk7 ?_; (case zzk1 => k_asm); (case zzk2 => k_asm); (case zzk3 => k_inst); (case zzk4 => k_is); (case zzk5 => k_is); (case zzk6 => k_is); (case zzk7 => k_get); k_whole) | (refine' kmu_own ?zzk1 ?zzk2 ?zzk3 ?zzk4 ?zzk5 ?_; (case zzk1 => k_asm); (case zzk2 => k_asm); (case zzk3 => k_inst); (case zzk4 => k_is); (case zzk5 => k_is); k_whole) | (refine' kmu_sm ?zzk1 ?zzk2 ?zzk4 ?zzk5 ?zzk6 ?zzk7 ?zzk8 ?zzk9 ?zzk10 ?zzk11 ?zzk12 ?zzk13 ?zzk14 ?_; (case zzk1 => k_asm); (case zzk2 => k_asm); (case zzk4 => k_inst); (case zzk5 => k_is); (case zzk6 => k_is); (case zzk7 => k_is); (case zzk8 => k_is); (case zzk9 => k_is); (case zzk10 => k_is); (case zzk11 => decide +kernel); (case zzk12 => k_get); (case zzk13 => k_is); (case zzk14 => k_handed); k_whole))))) | (k_end; wrow_close) | walk1 | dsimp only | (leave1; try dsimp only) | fail "no step")
  all_goals (try dsimp only)
  all_goals (try (k_unfold; dsimp only))
  refine Done.intro (by k_asm) (by k_asm) ?_
  refine' ⟨_, _, _, _, _, _, _, _, rfl, ?e1, ?e2, ?m1, ?i1, ?r1, ?b1, ?b2, ?i2, ?l2, ?p2, ?m2, ?m3⟩
  case m1 => (first | walk_at "mm" | k_mem)
  case m2 => (first | walk_at "mm" | k_mem)
  case m3 => (first | walk_at "mm" | k_mem)
  case e1 => k_ne
  case e2 => k_ne
  case i1 => assumption
  case i2 => assumption
  case b1 => omega
  case b2 => omega
  case l2 => omega
  case p2 => assumption
  case r1 =>
    refine ⟨by rw [List.length_map, rangeKs_length]; rfl, fun x hx => ?_⟩
    obtain ⟨k, _, rfl⟩ := List.mem_map.mp hx
    exact ⟨Int.fmod_nonneg_of_pos _ (by decide), Int.fmod_lt_of_pos _ (by decide)⟩
theorem full_use {g1 : Obj → List (Addr × Obj)} {g2 : Obj → Obj → List (Addr × Obj)} (B : Below A₀ base outer h₀) (F : Fr h₀ L s.heap m) (X : (hdK.heap_1_39 w.params).In h₀) (N : News h₀ L s.heap news) (T : Top p loose mean mg mb h₀) (hk : cs.kind = .function)
   {st ce : Addr} {n : Int} {tn : Tok} {k1 k2 : Nat} {vs : List Value} {ns : List Int}
   (U1 : UpdF st (listOf #[.int n tn, .ref ce] k1) news g1) (U2 : ∀ o, UpdF ce (listOf vs.toArray k2) (g1 o) (g2 o))
   (hI : IntsAre vs ns) (hpos : ∀ x ∈ ns, 0 ≤ x) (hne : 0 < ns.length) (hlen : ns.length ≤ 1048576) (hn0 : 0 ≤ n) (hn1 : n ≤ 900000)
   (hsc : @Ne Nat st ce) (hd : dp + 20 < recursionLimit)
   (ret : ∀ r ys c kk n' tn' vs' ns' h' tk', IntsAre ys c → Row256 c → n ≤ n' → n' ≤ n + 3 → IntsAre vs' ns' → ns'.length = ns.length → (∀ x ∈ ns', 0 ≤ x) →
      Fr h₀ L h' m → News h₀ L h' ((r, listOf ys.toArray kk) :: g2 (listOf #[.int n' tn', .ref ce] k1) (listOf vs'.toArray k2)) → GnNe r news → Q (.ref r) {s with heap := h', toks := tk'}) :
   wpAny (model (PySem.Challenge.rw_yi0033_01.row.toRowW.prog) w) (ktrTop dp un gd cn cs L a ccd cl outer) (call (.ref 699) [.ref st]) Q E s := by
  have m1 := UpdF.mem U1
  have m2 : (ce, listOf vs.toArray k2) ∈ news := UpdF.mem' U1 (UpdF.mem (U2 default)) (Ne.symm hsc)
  refine full_con B F X N T hk st ce n tn k1 k2 vs ns m1 m2 hI hpos hne hlen hn0 hn1 hsc hd ?_
  rintro v h' tk' led hl ⟨r, ys, c, kk, n', tn', vs', ns', rfl, b1, b2, b3, b4, b5, a3, a4, a5, a6, a7, a8, a9⟩ k
  have hr : s.heap.get? r = none := by
    rcases (hl _ b3).2 with h1 | h1
    · rcases List.mem_cons.mp h1 with h1 | h1
      · exact absurd h1 b1
      · rcases List.mem_cons.mp h1 with h1 | h1
        · exact absurd h1 b2
        · cases h1
    · exact h1
  exact ret r ys c kk n' tn' vs' ns' h' tk' b4 b5 a3 a4 a5 a6 a7 (Fr.after2 F N m1 m2 k) (fresh_news F hr (UpdF.after N U1 U2 k (hl _ a8).1 (hl _ a9).1) (hl _ b3).1) (fresh_ne N hr)
end
theorem top_YRing : True := by
  w_top off
  trivial
set_option maxRecDepth 100000
set_option maxHeartbeats 8000000
set_option rowWalk.seconds 0
section
variable {w : World} {p : Program} {loose : List Str} {mean : ExcName → Option Value} {mg mb : Str → Option Value} {dp un : Nat} {gd : Option (List Code)} {cn : Str} {cs : Scope} {a : Addr} {ccd : Value} {cl : List (Str × Addr)} {outer : List Env} {A₀ : Around} {base h₀ : Heap} {L : Addr} {m : Str → Option Value} {news : List (Addr × Obj)} {s : Shared} {Q E : Value → Shared → Prop}

/-- the ring's zetas: 17 to the bit-reversed i -/
def zetaF (i : Int) : Int := (Builtin.powMod (((17 : Int) % ((3329 : Int).natAbs : Int))).toNat (brF i).natAbs (3329 : Int).natAbs : Nat)
@[irreducible] def zetaL : List Int := (rangeKs 0 ((128 : Int) - 0).toNat).map zetaF
theorem zetaL_eq : zetaL = (rangeKs 0 ((128 : Int) - 0).toNat).map zetaF := by unfold zetaL; rfl
abbrev ringDict (P : Params) (t1 t2 t3 t4 t5 t6 t7 : Tok) (z : Addr) : Obj :=
  dictOf [⟨PyData.keyHash P (Str.ofString "q"), .str (Str.ofString "q") t1, .int 3329 t2⟩, ⟨PyData.keyHash P (Str.ofString "n"), .str (Str.ofString "n") t3, .int 256 t4⟩,
    ⟨PyData.keyHash P (Str.ofString "ntt_zetas"), .str (Str.ofString "ntt_zetas") t5, .ref z⟩, ⟨PyData.keyHash P (Str.ofString "ntt_f"), .str (Str.ofString "ntt_f") t6, .int 3303 t7⟩] 4
def RingP (P : Params) (x dx : Addr) (_v : Value) (_h : Heap) (led : List (Addr × Obj)) : Prop :=
  ∃ z zs kz t1 t2 t3 t4 t5 t6 t7, @Ne Nat z x ∧ @Ne Nat z dx ∧ IntsAre zs zetaL ∧ (x, instObj 437 dx) ∈ led ∧ (dx, ringDict P t1 t2 t3 t4 t5 t6 t7 z) ∈ led ∧ (z, listOf zs.toArray kz) ∈ led
theorem ring_use (B : Below A₀ base outer h₀) (F : Fr h₀ L s.heap m) (X : (hdK.heap_1_39 w.params).In h₀) (N : News h₀ L s.heap news) (T : Top p loose mean mg mb h₀) (hk : cs.kind = .function)
   (hd : dp + 30 < recursionLimit)
   (ret : ∀ x dx z zs kz t1 t2 t3 t4 t5 t6 t7 h' tk', IntsAre zs zetaL → (∀ p ∈ news, p.1 < dx) → dx < x → GnNe z ((x, instObj 437 dx) :: (dx, ringDict w.params t1 t2 t3 t4 t5 t6 t7 z) :: news) →
     Fr h₀ L h' m → News h₀ L h' ((z, listOf zs.toArray kz) :: (x, instObj 437 dx) :: (dx, ringDict w.params t1 t2 t3 t4 t5 t6 t7 z) :: news) → Q (.ref x) {s with heap := h', toks := tk'}) :
   wpAny (model (PySem.Challenge.rw_yi0033_01.row.toRowW.prog) w) (ktrTop dp un gd cn cs L a ccd cl outer) (call (.ref 437) []) Q E s := by
  k_dflt (refine' call_cls ?k1 ?k2 ?k3 ?k4 ?k5 ?k6 ?_; (case k1 => k_asm); (case k2 => k_asm); (case k3 => k_asm); (case k4 => k_is); (case k5 => k_is); (case k6 => k_is))
  intro x dx h1 F1 N1 l1 l2
  have N2 : News h₀ L h1 [(x, instObj 437 dx), (dx, dictOf [] 0)] := fun p hp => by
    rcases List.mem_cons.mp hp with rfl | hp
    · exact N1 _ (.head _)
    · rcases List.mem_cons.mp hp with rfl | hp
      · exact N1 _ (.tail _ (.head _))
      · cases hp
  k_dflt (refine' code_SC (fun g => Done g { s with heap := h1 } (fun v h' led => v = .none ∧ RingP w.params x dx v h' led)) ?k1 ?k2 ?k3 N2 ?k5 ?kA ?kF ?kK ?k6 ?k7 ?k8 ?k9 ?kB ?kD ?_ ?fin ?c2 ?c3 ?c4; ((case kA => exact rfl); (case kF => first | exact rfl | assumption); (case kK => assumption); (case k1 => k_asm); (case k2 => k_asm); (case k3 => k_asm); (case k5 => k_asm); (case k6 => k_is); (case k7 => k_is); (case k8 => ktr_room); (case k9 => first | exact BindsTo.of_eq rfl | exact binds_K (by k_in) rfl (by k_is) rfl rfl rfl); (case kB => exact rfl); (case kD => decide +kernel); (case c2 => exact rfl); (case c3 => exact rfl); (case c4 => exact rfl)))
  case fin =>
    intro v s' d
    obtain ⟨h', tk, led, rfl, k, hl, rfl, z, zs, kz, t1, t2, t3, t4, t5, t6, t7, ne1, ne2, hI, m1, m2, m3⟩ := d.out
    have k' : KeepsBut [x, dx] h1 h' := k
    have hz : h1.get? z = none := by
      rcases (hl _ m3).2 with q | q
      · rcases List.mem_cons.mp q with q | q
        · exact absurd q ne1
        · rcases List.mem_cons.mp q with q | q
          · exact absurd q ne2
          · cases q
      · exact q
    have x1 := (N1 _ (.head _)).2
    have x2 := (N1 _ (.tail _ (.head _))).2
    have F2 : Fr h₀ L h' m := Fr.of_keeps F1 k' (fun q hq => by
      rcases List.mem_cons.mp hq with rfl | hq
      · exact x1
      · rcases List.mem_cons.mp hq with rfl | hq
        · exact x2
        · cases hq)
    have N3 : News h₀ L h' news := News.of_keeps (fun p hp => N1 p (.tail _ (.tail _ hp))) k' (fun p hp q => by
      have e1 := l1 p hp
      rcases List.mem_cons.mp q with q | q
      · have q' : p.1 = x := q
        rw [q'] at e1
        exact absurd (Nat.lt_trans l2 e1) (Nat.lt_irrefl _)
      · rcases List.mem_cons.mp q with q | q
        · have q' : p.1 = dx := q
          rw [q'] at e1
          exact absurd e1 (Nat.lt_irrefl _)
        · cases q)
    have N4 : News h₀ L h' ((x, instObj 437 dx) :: (dx, ringDict w.params t1 t2 t3 t4 t5 t6 t7 z) :: news) := fun p hp => by
      rcases List.mem_cons.mp hp with rfl | hp
      · exact ⟨(hl _ m1).1, x1⟩
      · rcases List.mem_cons.mp hp with rfl | hp
        · exact ⟨(hl _ m2).1, x2⟩
        · exact N3 p hp
    refine ⟨rfl, ret x dx z zs kz t1 t2 t3 t4 t5 t6 t7 h' tk hI l1 l2 (gnNe_of fun p hp => ?_) F2 (fresh_news F1 hz N4 (hl _ m3).1)⟩
    rcases List.mem_cons.mp hp with rfl | hp
    · exact Ne.symm ne1
    · rcases List.mem_cons.mp hp with rfl | hp
      · exact Ne.symm ne2
      · intro q
        have := (N1 p (.tail _ (.tail _ hp))).1
        rw [q, hz] at this; cases this
  intro g' L' h' tk' cells' F' N' Y' B' X' T' l3
  clear N1 N2 N F1 F X ret
  have l1' := l3
  k_lt l3
  k_lt2 l2
  k_cells Y'
  have gL1 := gnc1 l1'
  have gL2 := gnc2 l1'
  simp only [List.cons_append, List.nil_append] at N'
  with_reducible show wpAny _ _ _ _ _ _
  k_fold
  repeat' (first | (k_unfold; (try dsimp only)) | ((with_reducible refine qb1 ?_); (try dsimp only)) | ((with_reducible refine qb2 ?_); (try dsimp only)) | ((with_reducible refine qa1 ?_); (try dsimp only)) | ((with_reducible refine qa2 ?_); (try dsimp only [List.cons_append, List.nil_append])) | ((with_reducible refine qs1 ?_); (try dsimp only)) | ((with_reducible refine qs2 ?_); (try dsimp only)) | (with_reducible refine qs3 ?_) | (with_reducible refine qs4 ?_) | ((with_reducible refine qc1 ?_); (try dsimp only)) | ((with_reducible refine qu1 ?_); (try dsimp only)) | (with_reducible refine qu2 ?_) | ((with_reducible refine qg1 ?_); (try dsimp only)) | (with_reducible refine qg2 ?_) | ((with_reducible refine qt1 ?_); (try dsimp only)) | ((with_reducible refine qr1 ?_); (try dsimp only)) | (with_reducible refine qb0 ?_) | (with_reducible refine qu0 ?_) | ((with_reducible show wpAny _ _ (spliced (backTo _ (starEach (_ :: _) _))) _ _ _); k_dflt (refine qa0 ?_)) | ((with_reducible show wpAny _ _ (execs (_ :: _) _) _ _ _); first | (k_here; k_gentoks) | (with_reducible refine qs0 ?_)) | ((with_reducible show wpAny _ _ (eval (PySem.Expr.Call (PySem.Expr.Name _ _) _ [] _) _) _ _ _); (fail_if_success (with_reducible show wpAny _ _ (eval _ (compEnvC _ _ _ _)) _ _ _)); k_dflt (refine qc0 ?_)) | ((with_reducible show wpAny _ _ (exec (Stmt.Assign [PySem.Expr.Name _ _] _ _) _) _ _ _); (fail_if_success (with_reducible show wpAny _ _ (exec (Stmt.Assign _ (PySem.Expr.ListComp _ _ _ _) _) _) _ _ _)); k_dflt (refine qg0 ?_)) | ((with_reducible show wpAny _ _ (eval (PySem.Expr.Attribute (PySem.Expr.Name _ _) _ _) _) _ _ _); k_dflt (refine qt0 ?_)) | (with_reducible refine qr0 ?_) | ((with_reducible show wpAny _ _ (call (Value.ref _) _ _) _ _ _); first | (with_reducible (k_here; (with_reducible show wpAny _ _ (call (Value.ref 400) _) _ _ _); k_dflt (refine' br_con ?zzk1 ?zzk2 ?zzk3 ?zzk5 ?zzk6 _ _ _ ?zzi1 ?zzi2 ?zzd1 ?_; (case zzk1 => k_asm); (case zzk2 => k_asm); (case zzk3 => k_asm); (case zzk5 => k_asm); (case zzk6 => first | exact rfl | assumption); (case zzi1 => first | assumption | omega); (case zzi2 => first | exact lt_k (by assumption) rfl | omega); (case zzd1 => ktr_room); k_whole); (intro t9 h9 tk9 k9; have F9 := Fr.stays (by assumption) k9; have N9 := News.stays (by assumption) k9; clear k9); (try k_sweep)))) | ((with_reducible show wpAny _ _ (call (Value.builtin "pow") _ _) _ _ _); (first | (with_reducible (k_here; refine' pow3 (gives_pow3 _ _ _ _ _ _ ?zzhe (by decide) (by decide) (by decide)) ?_; (case zzhe => (have hb9 := brF_range (by assumption) (by assumption); omega)))) | (k_here; refine' pow3 (gives_pow3 _ _ _ _ _ _ ?zzhe (by decide) (by decide) (by decide)) ?_; (case zzhe => (have hb9 := brF_range (by assumption) (by assumption); omega))))) | ((with_reducible show wpAny _ _ (call (Value.builtin "pow") _ _) _ _ _); (first | (with_reducible (k_here; refine' pow3 (gives_powInv _ _ _) ?_)) | (k_here; refine' pow3 (gives_powInv _ _ _) ?_))) | ((with_reducible show wpAny _ _ (setItem (Value.ref _) (Value.int _ _) _) _ _ _); (with_reducible (k_here; (with_reducible show wpAny _ _ (setItem (Value.ref _) (Value.int _ _) _) _ _ _); k_dflt (refine' set_here ?zzk1 ?zzk2 ?zzk3 ?zzk4 ?zzk5 ?zzk6 ?zzk7 ?_; (case zzk1 => k_asm); (case zzk2 => k_asm); (case zzk3 => k_upd); (case zzk4 => decide); (case zzk5 => simp; done); (case zzk6 => decide); (case zzk7 => exact rfl); k_whole); intro h' F' N'; (simp only [List.setIfInBounds_toArray, Int.toNat_zero, Int.reduceToNat, List.set_cons_zero, List.set_cons_succ] at N'); (try k_sweep)))) | ((with_reducible show wpAny _ _ (getMethod (Value.ref _) _ _) _ _ _); (with_reducible (k_here; k_dflt (first | (refine' method_inst ?zzk1 ?zzk2 ?zzk3 ?zzk4 ?zzk5 ?zzk6 ?zzk7 ?_; (case zzk1 => k_asm); (case zzk2 => k_asm); (case zzk3 => k_inst); (case zzk4 => k_is); (case zzk5 => k_is); (case zzk6 => k_is); (case zzk7 => k_get); k_whole) | (refine' kmu_own ?zzk1 ?zzk2 ?zzk3 ?zzk4 ?zzk5 ?_; (case zzk1 => k_asm); (case zzk2 => k_asm); (case zzk3 => k_inst); (case zzk4 => k_is); (case zzk5 => k_is); k_whole) | (refine' kmu_sm ?zzk1 ?zzk2 ?zzk4 ?zzk5 ?zzk6 ?zzk7 ?zzk8 ?zzk9 ?zzk10 ?zzk11 ?zzk12 ?zzk13 ?zzk14 ?_; (case zzk1 => k_asm); (case zzk2 => k_asm); (case zzk4 => k_inst); (case zzk5 => k_is); (case zzk6 => k_is); (case zzk7 => k_is); (case zzk8 => k_is); (case zzk9 => k_is); (case zzk10 => k_is); (case zzk11 => decide +kernel); (case zzk12 => k_get); (case zzk13 => k_is); (case zzk14 => k_handed); k_whole))))) | (k_end; wrow_close) | walk1 | dsimp only | (leave1; try dsimp only) | fail "no step")
  all_goals (try dsimp only)
  all_goals (try (k_unfold; dsimp only))
  refine Done.intro (by k_asm) (by k_asm) ⟨rfl, ?_⟩
  refine' ⟨_, _, _, _, _, _, _, _, _, _, ?e1, ?e2, ?i, ?m1, ?m2, ?m3⟩
  case m1 => (first | walk_at "mm" | k_mem)
  case m2 => (first | walk_at "mm" | k_mem)
  case m3 => (first | walk_at "mm" | k_mem)
  case e1 => k_ne
  case e2 => k_ne
  case i => rw [zetaL_eq]; assumption
end
theorem top_YMk : True := by
  w_top off
  trivial
set_option maxRecDepth 100000
set_option maxHeartbeats 8000000
set_option rowWalk.seconds 0
section
variable {w : World} {p : Program} {loose : List Str} {mean : ExcName → Option Value} {mg mb : Str → Option Value} {dp un : Nat} {gd : Option (List Code)} {cn : Str} {cs : Scope} {a : Addr} {ccd : Value} {cl : List (Str × Addr)} {outer : List Env} {A₀ : Around} {base h₀ : Heap} {L : Addr} {m : Str → Option Value} {news : List (Addr × Obj)} {s : Shared} {Q E : Value → Shared → Prop}

abbrev polyDict (P : Params) (t1 t2 : Tok) (R c : Addr) : Obj :=
  dictOf [⟨PyData.keyHash P (Str.ofString "parent"), .str (Str.ofString "parent") t1, .ref R⟩, ⟨PyData.keyHash P (Str.ofString "coeffs"), .str (Str.ofString "coeffs") t2, .ref c⟩] 2
def MkP (P : Params) (R c : Addr) (sub : List (Addr × Obj)) (v : Value) (_h : Heap) (led : List (Addr × Obj)) : Prop :=
  (∀ p ∈ sub, p ∈ led) ∧ ∃ x dx t1 t2, v = .ref x ∧ GnNe x sub ∧ GnNe dx sub ∧ @Ne Nat dx x ∧ (x, instObj 581 dx) ∈ led ∧ (dx, polyDict P t1 t2 R c) ∈ led
theorem mk_use (B : Below A₀ base outer h₀) (F : Fr h₀ L s.heap m) (X : (hdK.heap_1_39 w.params).In h₀) (N : News h₀ L s.heap news) (T : Top p loose mean mg mb h₀) (hk : cs.kind = .function)
   {R dR z c : Addr} {t1 t2 t3 t4 t5 t6 t7 : Tok} {ys : List Value} {cL : List Int} {kc : Nat}
   (m1 : (R, instObj 437 dR) ∈ news) (m2 : (dR, ringDict w.params t1 t2 t3 t4 t5 t6 t7 z) ∈ news) (m3 : (c, listOf ys.toArray kc) ∈ news) (hI : IntsAre ys cL) (hlen : cL.length = 256)
   (hd : dp + 30 < recursionLimit)
   (ret : ∀ x dx u1 u2 h' tk', GnNe dx news → GnNe x ((dx, polyDict w.params u1 u2 R c) :: news) → Fr h₀ L h' m → News h₀ L h' ((x, instObj 581 dx) :: (dx, polyDict w.params u1 u2 R c) :: news) → s.heap.StaysIn h' → Q (.ref x) {s with heap := h', toks := tk'}) :
   wpAny (model (PySem.Challenge.rw_yi0033_01.row.toRowW.prog) w) (ktrTop dp un gd cn cs L a ccd cl outer) (call (.ref R) [.ref c] [(Str.ofString "is_ntt", .bool true)]) Q E s := by
  have hsub : ∀ p ∈ [(R, instObj 437 dR), (dR, ringDict w.params t1 t2 t3 t4 t5 t6 t7 z), (c, listOf ys.toArray kc)], p ∈ news := by
    intro p hp
    rcases List.mem_cons.mp hp with rfl | hp
    · exact m1
    · rcases List.mem_cons.mp hp with rfl | hp
      · exact m2
      · rcases List.mem_cons.mp hp with rfl | hp
        · exact m3
        · cases hp
  have N2 := News.sub N hsub
  refine wpAny_call ?_
  k_dflt (refine' kco_code ?k1 ?k2 ?k3 ?k4 ?k5 ?k6 ?_; (case k1 => k_in); (case k2 => exact InstAt.of_news N m1 m2); (case k3 => rfl); (case k4 => k_is); (case k5 => k_is); (case k6 => k_is); (try dsimp only))
  k_dflt (refine' code_S (fun g => Done g s (MkP w.params R c [(R, instObj 437 dR), (dR, ringDict w.params t1 t2 t3 t4 t5 t6 t7 z), (c, listOf ys.toArray kc)])) ?k1 ?k2 ?k3 N2 ?k5 ?kA ?kF ?kK ?k6 ?k7 ?k8 ?k9 ?kB ?_ ?fin ?c2 ?c3 ?c4 ?c5; ((case kA => exact rfl); (case kF => first | exact rfl | assumption); (case kK => assumption); (case k1 => k_asm); (case k2 => k_asm); (case k3 => k_asm); (case k5 => k_asm); (case k6 => k_is); (case k7 => k_is); (case k8 => ktr_room); (case k9 => first | exact BindsTo.of_eq rfl | exact binds_K (by k_in) rfl (by k_is) rfl rfl rfl); (case c5 => decide); (case kB => exact locs rfl); (case c2 => exact rfl); (case c3 => exact rfl); (case c4 => exact rfl)))
  case fin =>
    intro v s' d
    obtain ⟨h', tk, led, rfl, k, hl, hs, x, dx, u1, u2, rfl, g1, g2, ne, e1, e2⟩ := d.pure (fun p hp => (N2 p hp).1) (fun _ _ _ q => q.1)
    have hx := fresh_of hl e1 g1
    have hdx := fresh_of hl e2 g2
    exact ret x dx u1 u2 h' tk (fresh_ne N hdx) ⟨ne, fresh_ne N hx⟩ (Fr.stays F k) (fresh_news F hx (fresh_news F hdx (News.stays N k) (hl _ e2).1) (hl _ e1).1) k
  intro g' L' h' F' N' B' X' T' l1
  clear N2 N F X ret
  k_lt l1
  try dsimp only
  with_reducible show wpAny _ _ _ _ _ _
  k_fold
  repeat' (first | (k_unfold; (try dsimp only)) | ((with_reducible refine qb1 ?_); (try dsimp only)) | ((with_reducible refine qb2 ?_); (try dsimp only)) | ((with_reducible refine qa1 ?_); (try dsimp only)) | ((with_reducible refine qa2 ?_); (try dsimp only [List.cons_append, List.nil_append])) | ((with_reducible refine qs1 ?_); (try dsimp only)) | ((with_reducible refine qs2 ?_); (try dsimp only)) | (with_reducible refine qs3 ?_) | (with_reducible refine qs4 ?_) | ((with_reducible refine qc1 ?_); (try dsimp only)) | ((with_reducible refine qu1 ?_); (try dsimp only)) | (with_reducible refine qu2 ?_) | ((with_reducible refine qg1 ?_); (try dsimp only)) | (with_reducible refine qg2 ?_) | ((with_reducible refine qt1 ?_); (try dsimp only)) | ((with_reducible refine qr1 ?_); (try dsimp only)) | (with_reducible refine qb0 ?_) | (with_reducible refine qu0 ?_) | ((with_reducible show wpAny _ _ (spliced (backTo _ (starEach (_ :: _) _))) _ _ _); k_dflt (refine qa0 ?_)) | ((with_reducible show wpAny _ _ (execs (_ :: _) _) _ _ _); first | (k_here; k_gentoks) | (with_reducible refine qs0 ?_)) | ((with_reducible show wpAny _ _ (eval (PySem.Expr.Call (PySem.Expr.Name _ _) _ [] _) _) _ _ _); (fail_if_success (with_reducible show wpAny _ _ (eval _ (compEnvC _ _ _ _)) _ _ _)); k_dflt (refine qc0 ?_)) | ((with_reducible show wpAny _ _ (exec (Stmt.Assign [PySem.Expr.Name _ _] _ _) _) _ _ _); (fail_if_success (with_reducible show wpAny _ _ (exec (Stmt.Assign _ (PySem.Expr.ListComp _ _ _ _) _) _) _ _ _)); k_dflt (refine qg0 ?_)) | ((with_reducible show wpAny _ _ (eval (PySem.Expr.Attribute (PySem.Expr.Name _ _) _ _) _) _ _ _); k_dflt (refine qt0 ?_)) | (with_reducible refine qr0 ?_) | ((with_reducible show wpAny _ _ (setItem (Value.ref _) (Value.int _ _) _) _ _ _); (with_reducible (k_here; (with_reducible show wpAny _ _ (setItem (Value.ref _) (Value.int _ _) _) _ _ _); k_dflt (refine' set_here ?zzk1 ?zzk2 ?zzk3 ?zzk4 ?zzk5 ?zzk6 ?zzk7 ?_; (case zzk1 => k_asm); (case zzk2 => k_asm); (case zzk3 => k_upd); (case zzk4 => decide); (case zzk5 => simp; done); (case zzk6 => decide); (case zzk7 => exact rfl); k_whole); intro h' F' N'; (simp only [List.setIfInBounds_toArray, Int.toNat_zero, Int.reduceToNat, List.set_cons_zero, List.set_cons_succ] at N'); (try k_sweep)))) | ((with_reducible show wpAny _ _ (getMethod (Value.ref _) _ _) _ _ _); (with_reducible (k_here; k_dflt (first | (refine' method_inst ?zzk1 ?zzk2 ?zzk3 ?zzk4 ?zzk5 ?zzk6 ?zzk7 ?_; (case zzk1 => k_asm); (case zzk2 => k_asm); (case zzk3 => k_inst); (case zzk4 => k_is); (case zzk5 => k_is); (case zzk6 => k_is); (case zzk7 => k_get); k_whole) | (refine' kmu_own ?zzk1 ?zzk2 ?zzk3 ?zzk4 ?zzk5 ?_; (case zzk1 => k_asm); (case zzk2 => k_asm); (case zzk3 => k_inst); (case zzk4 => k_is); (case zzk5 => k_is); k_whole) | (refine' kmu_sm ?zzk1 ?zzk2 ?zzk4 ?zzk5 ?zzk6 ?zzk7 ?zzk8 ?zzk9 ?zzk10 ?zzk11 ?zzk12 ?zzk13 ?zzk14 ?_; (case zzk1 => k_asm); (case zzk2 => k_asm); (case zzk4 => k_inst); (case zzk5 => k_is); (case zzk6 => k_is); (case zzk7 => k_is); (case zzk8 => k_is); (case zzk9 => k_is); (case zzk10 => k_is); (case zzk11 => decide +kernel); (case zzk12 => k_get); (case zzk13 => k_is); (case zzk14 => k_handed); k_whole))))) | (k_end; wrow_close) | walk1 | dsimp only | (leave1; try dsimp only) | fail "no step")
  all_goals (try dsimp only)
  all_goals (try (k_unfold; dsimp only))
  refine Done.intro (by k_asm) (by k_asm) ?_
  refine' ⟨fun p hp => .tail _ (.tail _ hp), _, _, _, _, rfl, ?g1, ?g2, ?ne, ?m1, ?m2⟩
  case m1 => (first | walk_at "mm" | k_mem)
  case m2 => (first | walk_at "mm" | k_mem)
  case ne => k_ne
  case g1 => exact ⟨by k_ne, by k_ne, by k_ne, trivial⟩
  case g2 => exact ⟨by k_ne, by k_ne, by k_ne, trivial⟩
end
set_option maxRecDepth 100000
set_option maxHeartbeats 4000000
section
variable {prog : Program} {w : World} {A : Around} {E : Value → Shared → Prop} {s : Shared} {env : Env} {h₀ : Heap} {x : Str} {body : List Stmt} {Q : Flow → Shared → Prop}
theorem UnrPost.mono {L I : Addr} {s₁ s₂ : Shared} {it : Obj} {r r' : (Str → Option Value) → List (Addr × Obj) → Prop} {f : Flow} (h : ∀ m n, r m n → r' m n) (p : UnrPost h₀ L s₁ I it r Q f s₂) : UnrPost h₀ L s₁ I it r' Q f s₂ := by
  cases f with
  | ret v => exact p
  | brk => exact p
  | next =>
    obtain ⟨a, b, c, d, e1, e2, e3, e4, e5⟩ := p
    exact ⟨a, b, c, d, e1, e2, e3, e4, h _ _ e5⟩
  | cont =>
    obtain ⟨a, b, c, d, e1, e2, e3, e4, e5⟩ := p
    exact ⟨a, b, c, d, e1, e2, e3, e4, h _ _ e5⟩
theorem range_rest {I : Addr} {a : Int} {n : Nat} (J : Nat → (Str → Option Value) → List (Addr × Obj) → Prop)
    (turn : ∀ i m₁ news₁ t h tk, i < n → J i m₁ news₁ → Fr h₀ env.locals h (fun y => if y = x then some (.int (a + (i : Int)) t) else m₁ y) →
      News h₀ env.locals h ((I, itR (a + ((i + 1 : Nat) : Int)) ((n : Int) - ((i + 1 : Nat) : Int))) :: news₁) →
      wpAny (model prog w) A (execs body env) (UnrPost h₀ env.locals { s with heap := h, toks := tk } I (itR (a + ((i + 1 : Nat) : Int)) ((n : Int) - ((i + 1 : Nat) : Int))) (J (i + 1)) Q) E { s with heap := h, toks := tk })
    (done : ∀ m₁ news₁ h tk, J n m₁ news₁ → Fr h₀ env.locals h m₁ → News h₀ env.locals h news₁ → Q .next { s with heap := h, toks := tk }) :
    ∀ k i m news, i + k = n → J i m news → RangeRest prog w A E h₀ env x body Q s I a n k i m news
  | 0, i, m, news, e, j => RangeRest.zero fun h tk F N => done m news h tk ((show i = n by omega) ▸ j) F N
  | k + 1, i, m, news, e, j => RangeRest.succ fun t h tk F N =>
    wpAny_mono (turn i m news t h tk (by omega) j F N) (fun f s₂ p => UnrPost.mono (fun m' n' j' => range_rest J turn done k (i + 1) m' n' (by omega) j') p) fun _ _ e => e
theorem range_inv {r : Addr} {a₀ b₀ : Int} {t₀ u₀ v₀ : Tok} {n : Nat} {m₀ : Str → Option Value} {news : List (Addr × Obj)} (J : Nat → (Str → Option Value) → List (Addr × Obj) → Prop)
    (hh : A.handled = none) (hr : IsRange s.heap r a₀ b₀ 1 t₀ u₀ v₀) (hsmall : Builtin.Range.small a₀ b₀ 1 = true) (hn : Builtin.Range.rangeSize a₀ b₀ 1 = (n : Int)) (F : Fr h₀ env.locals s.heap m₀) (N : News h₀ env.locals s.heap news) (j0 : J 0 m₀ news)
    (turn : ∀ I, (∀ p ∈ news, p.1 < I) → ∀ i m₁ news₁ t h tk, i < n → J i m₁ news₁ → Fr h₀ env.locals h (fun y => if y = x then some (.int (a₀ + (i : Int)) t) else m₁ y) →
      News h₀ env.locals h ((I, itR (a₀ + ((i + 1 : Nat) : Int)) ((n : Int) - ((i + 1 : Nat) : Int))) :: news₁) →
      wpAny (model prog w) A (execs body env) (UnrPost h₀ env.locals { s with heap := h, toks := tk } I (itR (a₀ + ((i + 1 : Nat) : Int)) ((n : Int) - ((i + 1 : Nat) : Int))) (J (i + 1)) Q) E { s with heap := h, toks := tk })
    (done : ∀ m₁ news₁ h tk, J n m₁ news₁ → Fr h₀ env.locals h m₁ → News h₀ env.locals h news₁ → Q .next { s with heap := h, toks := tk }) :
    wpAny (model prog w) A (pyIter (.ref r)) (fun it s₂ => LoopAtV prog w A h₀ env x body Q E it s₂) E s :=
  iter_rangeUnr hh hr hsmall hn F N fun I l => range_rest J (turn I l) done n 0 m₀ news (by omega) j0
theorem range_invF {r : Addr} {a₀ b₀ : Int} {t₀ u₀ v₀ : Tok} {n : Nat} {m₀ : Str → Option Value} {news : List (Addr × Obj)} (J : (Str → Option Value) → List (Addr × Obj) → Nat → (Str → Option Value) → List (Addr × Obj) → Prop)
    (hh : A.handled = none) (hr : IsRange s.heap r a₀ b₀ 1 t₀ u₀ v₀) (hsmall : Builtin.Range.small a₀ b₀ 1 = true) (hn : Builtin.Range.rangeSize a₀ b₀ 1 = (n : Int)) (F : Fr h₀ env.locals s.heap m₀) (N : News h₀ env.locals s.heap news) (j0 : J m₀ news 0 m₀ news)
    (turn : ∀ I, (∀ p ∈ news, p.1 < I) → ∀ i m₁ news₁ t h tk, i < n → J m₀ news i m₁ news₁ → Fr h₀ env.locals h (fun y => if y = x then some (.int (a₀ + (i : Int)) t) else m₁ y) →
      News h₀ env.locals h ((I, itR (a₀ + ((i + 1 : Nat) : Int)) ((n : Int) - ((i + 1 : Nat) : Int))) :: news₁) →
      wpAny (model prog w) A (execs body env) (UnrPost h₀ env.locals { s with heap := h, toks := tk } I (itR (a₀ + ((i + 1 : Nat) : Int)) ((n : Int) - ((i + 1 : Nat) : Int))) (J m₀ news (i + 1)) Q) E { s with heap := h, toks := tk })
    (done : ∀ m₁ news₁ h tk, J m₀ news n m₁ news₁ → Fr h₀ env.locals h m₁ → News h₀ env.locals h news₁ → Q .next { s with heap := h, toks := tk }) :
    wpAny (model prog w) A (pyIter (.ref r)) (fun it s₂ => LoopAtV prog w A h₀ env x body Q E it s₂) E s :=
  range_inv (J m₀ news) hh hr hsmall hn F N j0 turn done
/-- a frame's map that parts from another at the names alone -/
def MapBut (ns : List Str) (m₀ m : Str → Option Value) : Prop := ∀ y, ns.contains y = false → m y = m₀ y
theorem MapBut.eq {ns : List Str} {m₀ m : Str → Option Value} (h : MapBut ns m₀ m) : m = fun y => if ns.contains y = true then m y else m₀ y := by
  funext y
  by_cases q : ns.contains y = true
  · rw [if_pos q]
  · rw [if_neg q]; exact h y (by simpa using q)
theorem MapBut.ex {ns : List Str} {m₀ m : Str → Option Value} (h : MapBut ns m₀ m) : ∃ U : Str → Option Value, m = fun y => if ns.contains y = true then U y else m₀ y := ⟨m, h.eq⟩
theorem MapBut.refl (ns : List Str) (m₀ : Str → Option Value) : MapBut ns m₀ m₀ := fun _ _ => rfl
theorem MapBut.put {ns : List Str} {m₀ m : Str → Option Value} {z : Str} {v : Option Value} (h : MapBut ns m₀ m) (hz : ns.contains z = true) : MapBut ns m₀ (fun y => if y = z then v else m y) := fun y hy => by
  have : y ≠ z := fun q => by rw [q, hz] at hy; cases hy
  show (if y = z then v else m y) = m₀ y
  rw [if_neg this]
  exact h y hy
theorem MapBut.same {ns : List Str} {m₀ m : Str → Option Value} {z : Str} {v : Option Value} (h : MapBut ns m₀ m) (hz : m₀ z = v) : MapBut ns m₀ (fun y => if y = z then v else m y) := fun y hy => by
  show (if y = z then v else m y) = m₀ y
  by_cases q : y = z
  · rw [if_pos q, q, hz]
  · rw [if_neg q]; exact h y hy
theorem MapBut.but {ns : List Str} {m₀ U : Str → Option Value} : MapBut ns m₀ (fun y => if ns.contains y = true then U y else m₀ y) := fun y hy => by
  show (if ns.contains y = true then U y else m₀ y) = m₀ y
  rw [hy]; rfl
end
set_option maxRecDepth 100000
set_option maxHeartbeats 4000000
theorem iadd_name : PySem.dunderI "add" = Str.ofString "__iadd__" := by decide +kernel
theorem fills_list_no : fillsNumberSlot (.type "list") "add" = pure false :=
  PyProof.Rows.fillsNumberSlot_seq (id := "list.__add__") (r := none) (by rw [typeLookup_type, builtinLookup_eq_fast]; kernel_rfl) (by decide +kernel) (by rw [typeLookup_type, builtinLookup_eq_fast]; kernel_rfl) (by decide +kernel)
theorem seq_list_iadd : seqSlot? (.type "list") (PySem.dunderI "add") = pure (some (.builtin "list.__iadd__")) := PyProof.Rows.seqSlot_of PySem.F.slot_list_iadd.lookup (by decide +kernel)
theorem inplace_no : fillsInplaceSlot (.type "list") "add" (Operator.Add == .Add) = pure false := by
  unfold fillsInplaceSlot
  show (typeLookup (.type "list") (PySem.dunderI "add") >>= fun fi => pure (fi.isSome && !isSeqSlot fi)) = pure false
  rw [PySem.F.slot_list_iadd.lookup]
  have e : isSeqSlot (some (.builtin "list.__iadd__")) = true := by decide +kernel
  show (pure ((some (Value.builtin "list.__iadd__")).isSome && !isSeqSlot (some (.builtin "list.__iadd__"))) : Sem Bool) = pure false
  rw [e]; rfl
section
variable {prog : Program} {w : World} {A : Around} {E : Value → Shared → Prop} {s : Shared} {h₀ h : Heap} {L D b : Addr} {m : Str → Option Value} {news news' pre post : List (Addr × Obj)} {its2 : Array Value} {n n2 : Nat} {vs : List Value}
theorem iadd_list {Q : Value → Shared → Prop} (F : Fr h₀ L s.heap m) (N : News h₀ L s.heap news) (hb : (b, listOf its2 n2) ∈ news) (hne : its2.size ≠ 0)
    (U : Upd D (listOf vs.toArray n) (listOf (vs ++ its2.toList).toArray (n + 1)) news news') (hz : vs.length + its2.size ≤ 1000000)
    (h : ∀ h', Fr h₀ L h' m → News h₀ L h' news' → Q (.ref D) { s with heap := h' }) : wpAny (model prog w) A (inplaceOp .Add (.ref D) (.ref b)) Q E s := by
  obtain ⟨pre, post, rfl, rfl, a, c⟩ := U.split
  have z := N (D, listOf vs.toArray n) (List.mem_append.mpr (.inr (.head _)))
  have ha : s.TypeIs (.ref D) "list" := ⟨_, z.1, rfl⟩
  have hbT : s.TypeIs (.ref b) "list" := ⟨_, (N _ hb).1, rfl⟩
  unfold inplaceOp
  refine wpAny_holding ?_
  refine wpAny_bind (wpAny_typeOf ha (wpAny_bind (wpAny_of_eq inplace_no ?_)))
  show wpAny _ A (if false = true then _ else _) Q E s
  rw [if_neg Bool.false_ne_true]
  refine wpAny_bind (binaryOp1_none (nm := "add") ha hbT fills_list_no ?_)
  refine wpAny_bind (wpAny_of_eq seq_list_iadd ?_)
  refine wpAny_bind (wpAny_rule ?_)
  have q1 : vs.toArray.size ≤ sizeLine := by rw [sizeLine_eq, List.size_toArray]; omega
  have q2 : vs.toArray.size + its2.size ≤ sizeLine + 1 := by rw [sizeLine_eq, List.size_toArray]; omega
  have q3 : ¬(!vs.toArray.isEmpty && Builtin.List.listTooLong (vs.toArray.size + its2.size)) = true := extend_door (by rw [sizeLine_eq, List.size_toArray]; omega)
  refine call_meets PySem.F.slot_list_iadd ⟨_, z.1, rfl⟩ PySem.F.entry_list_iadd (PySem.F.args_list_iadd_2 _ _) (PySem.AutoSeq1.list___iadd___list_list_0 D vs.toArray n b its2 n2 q3 q1 q2) ⟨z.1, (N _ hb).1, h _ (F.change (Heap.SameBut.update ..) z.2.1 z.2.2) (kl_turn _ N a c ?_ ?_)⟩
  · apply Array.toList_inj.mp
    simp
  · simp only [List.size_toArray, List.length_append, Array.length_toList, ne_eq]
    omega
end
theorem top_YCoef : True := by
  w_top off
  trivial
set_option maxRecDepth 100000
set_option maxHeartbeats 8000000
set_option rowWalk.seconds 0
section
variable {w : World} {p : Program} {loose : List Str} {mean : ExcName → Option Value} {mg mb : Str → Option Value} {dp un : Nat} {gd : Option (List Code)} {cn : Str} {cs : Scope} {a : Addr} {ccd : Value} {cl : List (Str × Addr)} {outer : List Env} {A₀ : Around} {base h₀ : Heap} {L : Addr} {m : Str → Option Value} {news : List (Addr × Obj)} {s : Shared} {Q E : Value → Shared → Prop}

def bm0 (a0 a1 b0 b1 z : Int) : Int := Int.fmod (a0 * b0 + z * a1 * b1) 3329
def bm1 (a0 a1 b0 b1 : Int) : Int := Int.fmod (a1 * b0 + a0 * b1) 3329
def quad (a b : List Int) (i : Int) : List Int :=
  [bm0 (a.getD (4 * i + 0).toNat 0) (a.getD (4 * i + 1).toNat 0) (b.getD (4 * i + 0).toNat 0) (b.getD (4 * i + 1).toNat 0) (zetaL.getD (64 + i).toNat 0),
   bm1 (a.getD (4 * i + 0).toNat 0) (a.getD (4 * i + 1).toNat 0) (b.getD (4 * i + 0).toNat 0) (b.getD (4 * i + 1).toNat 0),
   bm0 (a.getD (4 * i + 2).toNat 0) (a.getD (4 * i + 3).toNat 0) (b.getD (4 * i + 2).toNat 0) (b.getD (4 * i + 3).toNat 0) (-(zetaL.getD (64 + i).toNat 0)),
   bm1 (a.getD (4 * i + 2).toNat 0) (a.getD (4 * i + 3).toNat 0) (b.getD (4 * i + 2).toNat 0) (b.getD (4 * i + 3).toNat 0)]
@[irreducible] def mulP (a b : List Int) (n : Nat) : List Int := (rangeKs 0 n).flatMap (quad a b)
theorem mulP_zero (a b : List Int) : mulP a b 0 = [] := by unfold mulP; rfl
theorem mulP_succ (a b : List Int) (n : Nat) : mulP a b (n + 1) = mulP a b n ++ quad a b (0 + (n : Int)) := by
  unfold mulP rangeKs
  rw [List.range_succ, List.map_append, List.flatMap_append]
  simp
theorem mulP_len (a b : List Int) : ∀ n, (mulP a b n).length = 4 * n
  | 0 => by rw [mulP_zero]; rfl
  | n + 1 => by
    rw [mulP_succ, List.length_append, mulP_len a b n]
    show 4 * n + 4 = 4 * (n + 1)
    omega
def Small (c : List Int) : Prop := ∀ k, 0 ≤ c.getD k 0 ∧ c.getD k 0 < 3329
theorem Small.right {c : List Int} (h : Small c) (x : Int) (k : Nat) : IntMulOk x (c.getD k 0) := by
  have := h k
  exact .of_right (intBits_le_64 (by omega) (by omega))
local macro_rules | `(tactic| mul_fits) => `(tactic| exact Small.right (by assumption) _ _)
/-- between the turns: the list that grows holds the quads so far -/
def headTo (o : Obj) : List (Addr × Obj) → List (Addr × Obj)
  | [] => []
  | q :: r => (q.1, o) :: r
def CoefJ (a b : List Int) (m₀ : Str → Option Value) (led : List (Addr × Obj)) (i : Nat) (m : Str → Option Value) (news : List (Addr × Obj)) : Prop :=
  MapBut [Str.ofString "i", Str.ofString "r0", Str.ofString "r1", Str.ofString "r2", Str.ofString "r3"] m₀ m ∧ ∃ its kk, IntsAre its (mulP a b i) ∧ ∀ p ∈ headTo (listOf its.toArray kk) led, p ∈ news
theorem coefJ_step {a b : List Int} {l : Addr} {o : Obj} {rest led : List (Addr × Obj)} {m₀ m' : Str → Option Value} {its vs : List Value} {kk i : Nat} (hI : IntsAre its (mulP a b i))
    (h1 : (l, listOf (its ++ vs).toArray (kk + 1)) ∈ led) (h2 : ∀ p ∈ rest, p ∈ led) (hv : IntsAre vs (quad a b (0 + (i : Int))))
    (hm : MapBut [Str.ofString "i", Str.ofString "r0", Str.ofString "r1", Str.ofString "r2", Str.ofString "r3"] m₀ m') : CoefJ a b m₀ ((l, o) :: rest) (i + 1) m' led :=
  ⟨hm, _, _, by rw [mulP_succ]; exact hI.append hv, fun p hp => by
    rcases List.mem_cons.mp hp with rfl | hp
    · exact h1
    · exact h2 p hp⟩
theorem zetaL_len : zetaL.length = 128 := by rw [zetaL_eq]; rw [List.length_map, rangeKs_length]; rfl
theorem zetaL_all : zetaL.all (fun x => decide (0 ≤ x) && decide (x < 3329)) = true := by rw [zetaL_eq]; decide +kernel
theorem small_of {c : List Int} (h : ∀ x ∈ c, 0 ≤ x ∧ x < 3329) : Small c := fun k => by
  rw [List.getD_eq_getElem?_getD]
  cases q : c[k]? with
  | none => exact ⟨Int.le_refl _, by decide⟩
  | some x => exact h x (List.mem_of_getElem? q)
theorem zetaL_small : Small zetaL := small_of fun x hx => by
  have := List.all_eq_true.mp zetaL_all x hx
  rw [Bool.and_eq_true, decide_eq_true_eq, decide_eq_true_eq] at this
  exact this
def CoefP (sub : List (Addr × Obj)) (a b : List Int) (v : Value) (_h : Heap) (led : List (Addr × Obj)) : Prop :=
  (∀ p ∈ sub, p ∈ led) ∧ ∃ c its kk, v = .ref c ∧ GnNe c sub ∧ IntsAre its (mulP a b 64) ∧ (c, listOf its.toArray kk) ∈ led
theorem coef_con (B : Below A₀ base outer h₀) (F : Fr h₀ L s.heap m) (X : (hdK.heap_1_39 w.params).In h₀) (N : News h₀ L s.heap news) (T : Top p loose mean mg mb h₀) (hk : cs.kind = .function)
   {x dx R dR z f g : Addr} {u1 u2 t1 t2 t3 t4 t5 t6 t7 : Tok} {zs fs gs : List Value} {fl gl : List Int} {kz kf kg : Nat}
   (m1 : (x, instObj 581 dx) ∈ news) (m2 : (dx, polyDict w.params u1 u2 R f) ∈ news) (m3 : (R, instObj 437 dR) ∈ news) (m4 : (dR, ringDict w.params t1 t2 t3 t4 t5 t6 t7 z) ∈ news) (m5 : (z, listOf zs.toArray kz) ∈ news)
   (m6 : (f, listOf fs.toArray kf) ∈ news) (m7 : (g, listOf gs.toArray kg) ∈ news) (hZ : IntsAre zs zetaL) (hF : IntsAre fs fl) (hG : IntsAre gs gl) (lF : fl.length = 256) (lG : gl.length = 256)
   (sF : Small fl) (sG : Small gl)
   (hd : dp + 30 < recursionLimit)
   (ret : ∀ c its kk h' tk', IntsAre its (mulP fl gl 64) → Fr h₀ L h' m → News h₀ L h' ((c, listOf its.toArray kk) :: news) → GnNe c news → s.heap.StaysIn h' → Q (.ref c) {s with heap := h', toks := tk'}) :
   wpAny (model (PySem.Challenge.rw_yi0033_01.row.toRowW.prog) w) (ktrTop dp un gd cn cs L a ccd cl outer) (call (.ref 552) [.ref x, .ref f, .ref g]) Q E s := by
  have hsub : ∀ p ∈ [(x, instObj 581 dx), (dx, polyDict w.params u1 u2 R f), (R, instObj 437 dR), (dR, ringDict w.params t1 t2 t3 t4 t5 t6 t7 z), (z, listOf zs.toArray kz), (f, listOf fs.toArray kf), (g, listOf gs.toArray kg)], p ∈ news := by
    intro p hp
    rcases List.mem_cons.mp hp with rfl | hp
    · exact m1
    rcases List.mem_cons.mp hp with rfl | hp
    · exact m2
    rcases List.mem_cons.mp hp with rfl | hp
    · exact m3
    rcases List.mem_cons.mp hp with rfl | hp
    · exact m4
    rcases List.mem_cons.mp hp with rfl | hp
    · exact m5
    rcases List.mem_cons.mp hp with rfl | hp
    · exact m6
    rcases List.mem_cons.mp hp with rfl | hp
    · exact m7
    cases hp
  have N2 := News.sub N hsub
  refine wpAny_call ?_
  k_dflt (refine' code_S (fun g' => Done g' s (CoefP [(x, instObj 581 dx), (dx, polyDict w.params u1 u2 R f), (R, instObj 437 dR), (dR, ringDict w.params t1 t2 t3 t4 t5 t6 t7 z), (z, listOf zs.toArray kz), (f, listOf fs.toArray kf), (g, listOf gs.toArray kg)] fl gl)) ?k1 ?k2 ?k3 N2 ?k5 ?kA ?kF ?kK ?k6 ?k7 ?k8 ?k9 ?kB ?_ ?fin ?c2 ?c3 ?c4 ?c5; ((case kA => exact rfl); (case kF => first | exact rfl | assumption); (case kK => assumption); (case k1 => k_asm); (case k2 => k_asm); (case k3 => k_asm); (case k5 => k_asm); (case k6 => k_is); (case k7 => k_is); (case k8 => ktr_room); (case k9 => first | exact BindsTo.of_eq rfl | exact binds_K (by k_in) rfl (by k_is) rfl rfl rfl); (case c5 => decide); (case kB => exact locs rfl); (case c2 => exact rfl); (case c3 => exact rfl); (case c4 => exact rfl)))
  case fin =>
    intro v s' d
    obtain ⟨h', tk, led, rfl, k, hl, hs, c, its, kk, rfl, g1, i1, e1⟩ := d.pure (fun p hp => (N2 p hp).1) (fun _ _ _ q => q.1)
    have hx := fresh_of hl e1 g1
    exact ret c its kk h' tk i1 (Fr.stays F k) (fresh_news F hx (News.stays N k) (hl _ e1).1) (fresh_ne N hx) k
  intro g' L' h' F' N' B' X' T' l1
  have lZ := zetaL_len
  have sZ := zetaL_small
  clear N2 N F X ret hsub
  k_lt l1
  try dsimp only
  with_reducible show wpAny _ _ _ _ _ _
  k_fold
  repeat' ((fail_if_success (with_reducible show wpAny _ _ (pyIter _) _ _ _)); (first | (k_unfold; (try dsimp only)) | ((with_reducible refine qb1 ?_); (try dsimp only)) | ((with_reducible refine qb2 ?_); (try dsimp only)) | ((with_reducible refine qa1 ?_); (try dsimp only)) | ((with_reducible refine qa2 ?_); (try dsimp only [List.cons_append, List.nil_append])) | ((with_reducible refine qs1 ?_); (try dsimp only)) | ((with_reducible refine qs2 ?_); (try dsimp only)) | (with_reducible refine qs3 ?_) | (with_reducible refine qs4 ?_) | ((with_reducible refine qc1 ?_); (try dsimp only)) | ((with_reducible refine qu1 ?_); (try dsimp only)) | (with_reducible refine qu2 ?_) | ((with_reducible refine qg1 ?_); (try dsimp only)) | (with_reducible refine qg2 ?_) | ((with_reducible refine qt1 ?_); (try dsimp only)) | ((with_reducible refine qr1 ?_); (try dsimp only)) | (with_reducible refine qb0 ?_) | (with_reducible refine qu0 ?_) | ((with_reducible show wpAny _ _ (spliced (backTo _ (starEach (_ :: _) _))) _ _ _); k_dflt (refine qa0 ?_)) | ((with_reducible show wpAny _ _ (execs (_ :: _) _) _ _ _); first | (k_here; k_gentoks) | (with_reducible refine qs0 ?_)) | ((with_reducible show wpAny _ _ (eval (PySem.Expr.Call (PySem.Expr.Name _ _) _ [] _) _) _ _ _); (fail_if_success (with_reducible show wpAny _ _ (eval _ (compEnvC _ _ _ _)) _ _ _)); k_dflt (refine qc0 ?_)) | ((with_reducible show wpAny _ _ (exec (Stmt.Assign [PySem.Expr.Name _ _] _ _) _) _ _ _); (fail_if_success (with_reducible show wpAny _ _ (exec (Stmt.Assign _ (PySem.Expr.ListComp _ _ _ _) _) _) _ _ _)); k_dflt (refine qg0 ?_)) | ((with_reducible show wpAny _ _ (eval (PySem.Expr.Attribute (PySem.Expr.Name _ _) _ _) _) _ _ _); k_dflt (refine qt0 ?_)) | (with_reducible refine qr0 ?_) | ((with_reducible show wpAny _ _ (exec (Stmt.For _ _ _ _ _) _) _ _ _); (first | (with_reducible (k_here; (rename Fr _ _ _ _ => lF'); (with_unfolding_all refine' For_invVF lF' ?zzk1 ?zzk2 ?_; (case zzk1 => exact rfl); (case zzk2 => exact rfl); k_whole))) | (k_here; (rename Fr _ _ _ _ => lF'); (with_unfolding_all refine' For_invVF lF' ?zzk1 ?zzk2 ?_; (case zzk1 => exact rfl); (case zzk2 => exact rfl); k_whole)))) | ((with_reducible show wpAny _ _ (inplaceOp _ (Value.ref _) _) _ _ _); (with_reducible (k_here; (with_reducible show wpAny _ _ (inplaceOp _ (Value.ref _) (Value.ref _)) _ _ _); k_dflt (refine' iadd_list ?zzk1 ?zzk2 ?zzk3 ?zzk4 ?zzk5 ?zzk6 ?_; (case zzk1 => k_asm); (case zzk2 => k_asm); (case zzk3 => (first | walk_at "mm" | k_mem)); (case zzk4 => (simp; done)); (case zzk5 => k_upd); (case zzk6 => (simp only [List.size_toArray, List.length_cons, List.length_nil]; omega)); k_whole); intro h' F' N'; (try k_sweep)))) | ((with_reducible show wpAny _ _ (setItem (Value.ref _) (Value.int _ _) _) _ _ _); (with_reducible (k_here; (with_reducible show wpAny _ _ (setItem (Value.ref _) (Value.int _ _) _) _ _ _); k_dflt (refine' set_here ?zzk1 ?zzk2 ?zzk3 ?zzk4 ?zzk5 ?zzk6 ?zzk7 ?_; (case zzk1 => k_asm); (case zzk2 => k_asm); (case zzk3 => k_upd); (case zzk4 => decide); (case zzk5 => simp; done); (case zzk6 => decide); (case zzk7 => exact rfl); k_whole); intro h' F' N'; (simp only [List.setIfInBounds_toArray, Int.toNat_zero, Int.reduceToNat, List.set_cons_zero, List.set_cons_succ] at N'); (try k_sweep)))) | ((with_reducible show wpAny _ _ (getMethod (Value.ref _) _ _) _ _ _); (with_reducible (k_here; k_dflt (first | (refine' method_inst ?zzk1 ?zzk2 ?zzk3 ?zzk4 ?zzk5 ?zzk6 ?zzk7 ?_; (case zzk1 => k_asm); (case zzk2 => k_asm); (case zzk3 => k_inst); (case zzk4 => k_is); (case zzk5 => k_is); (case zzk6 => k_is); (case zzk7 => k_get); k_whole) | (refine' kmu_own ?zzk1 ?zzk2 ?zzk3 ?zzk4 ?zzk5 ?_; (case zzk1 => k_asm); (case zzk2 => k_asm); (case zzk3 => k_inst); (case zzk4 => k_is); (case zzk5 => k_is); k_whole) | (refine' kmu_sm ?zzk1 ?zzk2 ?zzk4 ?zzk5 ?zzk6 ?zzk7 ?zzk8 ?zzk9 ?zzk10 ?zzk11 ?zzk12 ?zzk13 ?zzk14 ?_; (case zzk1 => k_asm); (case zzk2 => k_asm); (case zzk4 => k_inst); (case zzk5 => k_is); (case zzk6 => k_is); (case zzk7 => k_is); (case zzk8 => k_is); (case zzk9 => k_is); (case zzk10 => k_is); (case zzk11 => decide +kernel); (case zzk12 => k_get); (case zzk13 => k_is); (case zzk14 => k_handed); k_whole))))) | walk1 | dsimp only))
  with_unfolding_all refine' range_invF (n := 64) (CoefJ fl gl) ?hh ?hr ?hs ?hn ?hF ?hN ?j0 ?turn ?done
  case hh => rfl
  case hr => assumption
  case hs => decide
  case hn => decide
  case hF => k_asm
  case hN => k_asm
  case j0 => exact ⟨MapBut.refl _ _, [], 0, by rw [mulP_zero]; exact .nil, fun _ hp => hp⟩
  case turn =>
    intro I lI i m₁ news₁ t h tk hi hJ F1 N1
    obtain ⟨hm, its, kk, hIt, hs⟩ := hJ
    have N3 := News.sub N1 (fun q hq => (List.mem_cons.mp hq).elim (fun e => e ▸ .head _) (fun hq' => .tail _ (hs q hq')))
    obtain ⟨U, rfl⟩ := hm.ex
    dsimp only [headTo] at N3
    have hlen : its.length = 4 * i := by rw [hIt.length, mulP_len]
    clear hm hs N1
    k_lt lI
    k_sweep
    repeat' (first | (k_unfold; (try dsimp only)) | ((with_reducible refine qb1 ?_); (try dsimp only)) | ((with_reducible refine qb2 ?_); (try dsimp only)) | ((with_reducible refine qa1 ?_); (try dsimp only)) | ((with_reducible refine qa2 ?_); (try dsimp only [List.cons_append, List.nil_append])) | ((with_reducible refine qs1 ?_); (try dsimp only)) | ((with_reducible refine qs2 ?_); (try dsimp only)) | (with_reducible refine qs3 ?_) | (with_reducible refine qs4 ?_) | ((with_reducible refine qc1 ?_); (try dsimp only)) | ((with_reducible refine qu1 ?_); (try dsimp only)) | (with_reducible refine qu2 ?_) | ((with_reducible refine qg1 ?_); (try dsimp only)) | (with_reducible refine qg2 ?_) | ((with_reducible refine qt1 ?_); (try dsimp only)) | ((with_reducible refine qr1 ?_); (try dsimp only)) | (with_reducible refine qb0 ?_) | (with_reducible refine qu0 ?_) | ((with_reducible show wpAny _ _ (spliced (backTo _ (starEach (_ :: _) _))) _ _ _); k_dflt (refine qa0 ?_)) | ((with_reducible show wpAny _ _ (execs (_ :: _) _) _ _ _); first | (k_here; k_gentoks) | (with_reducible refine qs0 ?_)) | ((with_reducible show wpAny _ _ (eval (PySem.Expr.Call (PySem.Expr.Name _ _) _ [] _) _) _ _ _); (fail_if_success (with_reducible show wpAny _ _ (eval _ (compEnvC _ _ _ _)) _ _ _)); k_dflt (refine qc0 ?_)) | ((with_reducible show wpAny _ _ (exec (Stmt.Assign [PySem.Expr.Name _ _] _ _) _) _ _ _); (fail_if_success (with_reducible show wpAny _ _ (exec (Stmt.Assign _ (PySem.Expr.ListComp _ _ _ _) _) _) _ _ _)); k_dflt (refine qg0 ?_)) | ((with_reducible show wpAny _ _ (eval (PySem.Expr.Attribute (PySem.Expr.Name _ _) _ _) _) _ _ _); k_dflt (refine qt0 ?_)) | (with_reducible refine qr0 ?_) | ((with_reducible show wpAny _ _ (exec (Stmt.For _ _ _ _ _) _) _ _ _); (first | (with_reducible (k_here; (rename Fr _ _ _ _ => lF'); (with_unfolding_all refine' For_invVF lF' ?zzk1 ?zzk2 ?_; (case zzk1 => exact rfl); (case zzk2 => exact rfl); k_whole))) | (k_here; (rename Fr _ _ _ _ => lF'); (with_unfolding_all refine' For_invVF lF' ?zzk1 ?zzk2 ?_; (case zzk1 => exact rfl); (case zzk2 => exact rfl); k_whole)))) | ((with_reducible show wpAny _ _ (inplaceOp _ (Value.ref _) _) _ _ _); (with_reducible (k_here; (with_reducible show wpAny _ _ (inplaceOp _ (Value.ref _) (Value.ref _)) _ _ _); k_dflt (refine' iadd_list ?zzk1 ?zzk2 ?zzk3 ?zzk4 ?zzk5 ?zzk6 ?_; (case zzk1 => k_asm); (case zzk2 => k_asm); (case zzk3 => (first | walk_at "mm" | k_mem)); (case zzk4 => (simp; done)); (case zzk5 => k_upd); (case zzk6 => (simp only [List.size_toArray, List.length_cons, List.length_nil]; omega)); k_whole); intro h' F' N'; (try k_sweep)))) | ((with_reducible show wpAny _ _ (setItem (Value.ref _) (Value.int _ _) _) _ _ _); (with_reducible (k_here; (with_reducible show wpAny _ _ (setItem (Value.ref _) (Value.int _ _) _) _ _ _); k_dflt (refine' set_here ?zzk1 ?zzk2 ?zzk3 ?zzk4 ?zzk5 ?zzk6 ?zzk7 ?_; (case zzk1 => k_asm); (case zzk2 => k_asm); (case zzk3 => k_upd); (case zzk4 => decide); (case zzk5 => simp; done); (case zzk6 => decide); (case zzk7 => exact rfl); k_whole); intro h' F' N'; (simp only [List.setIfInBounds_toArray, Int.toNat_zero, Int.reduceToNat, List.set_cons_zero, List.set_cons_succ] at N'); (try k_sweep)))) | ((with_reducible show wpAny _ _ (getMethod (Value.ref _) _ _) _ _ _); (with_reducible (k_here; k_dflt (first | (refine' method_inst ?zzk1 ?zzk2 ?zzk3 ?zzk4 ?zzk5 ?zzk6 ?zzk7 ?_; (case zzk1 => k_asm); (case zzk2 => k_asm); (case zzk3 => k_inst); (case zzk4 => k_is); (case zzk5 => k_is); (case zzk6 => k_is); (case zzk7 => k_get); k_whole) | (refine' kmu_own ?zzk1 ?zzk2 ?zzk3 ?zzk4 ?zzk5 ?_; (case zzk1 => k_asm); (case zzk2 => k_asm); (case zzk3 => k_inst); (case zzk4 => k_is); (case zzk5 => k_is); k_whole) | (refine' kmu_sm ?zzk1 ?zzk2 ?zzk4 ?zzk5 ?zzk6 ?zzk7 ?zzk8 ?zzk9 ?zzk10 ?zzk11 ?zzk12 ?zzk13 ?zzk14 ?_; (case zzk1 => k_asm); (case zzk2 => k_asm); (case zzk4 => k_inst); (case zzk5 => k_is); (case zzk6 => k_is); (case zzk7 => k_is); (case zzk8 => k_is); (case zzk9 => k_is); (case zzk10 => k_is); (case zzk11 => decide +kernel); (case zzk12 => k_get); (case zzk13 => k_is); (case zzk14 => k_handed); k_whole))))) | (k_end; wrow_close) | walk1 | dsimp only | (leave1; try dsimp only) | fail "no step")
    refine' coefJ_step hIt ?c1 ?c2 ?c3 ?c4
    case c1 => (first | walk_at "mm" | k_mem)
    case c2 => exact fun p hp => .tail _ (.tail _ (.tail _ (.tail _ hp)))
    case c3 => exact .cons _ _ (.cons _ _ (.cons _ _ (.cons _ _ .nil)))
    case c4 => exact MapBut.same (MapBut.put (MapBut.put (MapBut.put (MapBut.put (MapBut.put MapBut.but rfl) rfl) rfl) rfl) rfl) rfl
  case done =>
    intro m₁ news₁ h tk hJ F1 N1
    obtain ⟨hm, its, kk, hIt, hs⟩ := hJ
    have N3 := News.sub N1 hs
    obtain ⟨U, rfl⟩ := hm.ex
    dsimp only [headTo] at N3
    clear hm hs N1
    k_sweep
    try dsimp only
    repeat' (first | (k_unfold; (try dsimp only)) | ((with_reducible refine qb1 ?_); (try dsimp only)) | ((with_reducible refine qb2 ?_); (try dsimp only)) | ((with_reducible refine qa1 ?_); (try dsimp only)) | ((with_reducible refine qa2 ?_); (try dsimp only [List.cons_append, List.nil_append])) | ((with_reducible refine qs1 ?_); (try dsimp only)) | ((with_reducible refine qs2 ?_); (try dsimp only)) | (with_reducible refine qs3 ?_) | (with_reducible refine qs4 ?_) | ((with_reducible refine qc1 ?_); (try dsimp only)) | ((with_reducible refine qu1 ?_); (try dsimp only)) | (with_reducible refine qu2 ?_) | ((with_reducible refine qg1 ?_); (try dsimp only)) | (with_reducible refine qg2 ?_) | ((with_reducible refine qt1 ?_); (try dsimp only)) | ((with_reducible refine qr1 ?_); (try dsimp only)) | (with_reducible refine qb0 ?_) | (with_reducible refine qu0 ?_) | ((with_reducible show wpAny _ _ (spliced (backTo _ (starEach (_ :: _) _))) _ _ _); k_dflt (refine qa0 ?_)) | ((with_reducible show wpAny _ _ (execs (_ :: _) _) _ _ _); first | (k_here; k_gentoks) | (with_reducible refine qs0 ?_)) | ((with_reducible show wpAny _ _ (eval (PySem.Expr.Call (PySem.Expr.Name _ _) _ [] _) _) _ _ _); (fail_if_success (with_reducible show wpAny _ _ (eval _ (compEnvC _ _ _ _)) _ _ _)); k_dflt (refine qc0 ?_)) | ((with_reducible show wpAny _ _ (exec (Stmt.Assign [PySem.Expr.Name _ _] _ _) _) _ _ _); (fail_if_success (with_reducible show wpAny _ _ (exec (Stmt.Assign _ (PySem.Expr.ListComp _ _ _ _) _) _) _ _ _)); k_dflt (refine qg0 ?_)) | ((with_reducible show wpAny _ _ (eval (PySem.Expr.Attribute (PySem.Expr.Name _ _) _ _) _) _ _ _); k_dflt (refine qt0 ?_)) | (with_reducible refine qr0 ?_) | ((with_reducible show wpAny _ _ (exec (Stmt.For _ _ _ _ _) _) _ _ _); (first | (with_reducible (k_here; (rename Fr _ _ _ _ => lF'); (with_unfolding_all refine' For_invVF lF' ?zzk1 ?zzk2 ?_; (case zzk1 => exact rfl); (case zzk2 => exact rfl); k_whole))) | (k_here; (rename Fr _ _ _ _ => lF'); (with_unfolding_all refine' For_invVF lF' ?zzk1 ?zzk2 ?_; (case zzk1 => exact rfl); (case zzk2 => exact rfl); k_whole)))) | ((with_reducible show wpAny _ _ (inplaceOp _ (Value.ref _) _) _ _ _); (with_reducible (k_here; (with_reducible show wpAny _ _ (inplaceOp _ (Value.ref _) (Value.ref _)) _ _ _); k_dflt (refine' iadd_list ?zzk1 ?zzk2 ?zzk3 ?zzk4 ?zzk5 ?zzk6 ?_; (case zzk1 => k_asm); (case zzk2 => k_asm); (case zzk3 => (first | walk_at "mm" | k_mem)); (case zzk4 => (simp; done)); (case zzk5 => k_upd); (case zzk6 => (simp only [List.size_toArray, List.length_cons, List.length_nil]; omega)); k_whole); intro h' F' N'; (try k_sweep)))) | ((with_reducible show wpAny _ _ (setItem (Value.ref _) (Value.int _ _) _) _ _ _); (with_reducible (k_here; (with_reducible show wpAny _ _ (setItem (Value.ref _) (Value.int _ _) _) _ _ _); k_dflt (refine' set_here ?zzk1 ?zzk2 ?zzk3 ?zzk4 ?zzk5 ?zzk6 ?zzk7 ?_; (case zzk1 => k_asm); (case zzk2 => k_asm); (case zzk3 => k_upd); (case zzk4 => decide); (case zzk5 => simp; done); (case zzk6 => decide); (case zzk7 => exact rfl); k_whole); intro h' F' N'; (simp only [List.setIfInBounds_toArray, Int.toNat_zero, Int.reduceToNat, List.set_cons_zero, List.set_cons_succ] at N'); (try k_sweep)))) | ((with_reducible show wpAny _ _ (getMethod (Value.ref _) _ _) _ _ _); (with_reducible (k_here; k_dflt (first | (refine' method_inst ?zzk1 ?zzk2 ?zzk3 ?zzk4 ?zzk5 ?zzk6 ?zzk7 ?_; (case zzk1 => k_asm); (case zzk2 => k_asm); (case zzk3 => k_inst); (case zzk4 => k_is); (case zzk5 => k_is); (case zzk6 => k_is); (case zzk7 => k_get); k_whole) | (refine' kmu_own ?zzk1 ?zzk2 ?zzk3 ?zzk4 ?zzk5 ?_; (case zzk1 => k_asm); (case zzk2 => k_asm); (case zzk3 => k_inst); (case zzk4 => k_is); (case zzk5 => k_is); k_whole) | (refine' kmu_sm ?zzk1 ?zzk2 ?zzk4 ?zzk5 ?zzk6 ?zzk7 ?zzk8 ?zzk9 ?zzk10 ?zzk11 ?zzk12 ?zzk13 ?zzk14 ?_; (case zzk1 => k_asm); (case zzk2 => k_asm); (case zzk4 => k_inst); (case zzk5 => k_is); (case zzk6 => k_is); (case zzk7 => k_is); (case zzk8 => k_is); (case zzk9 => k_is); (case zzk10 => k_is); (case zzk11 => decide +kernel); (case zzk12 => k_get); (case zzk13 => k_is); (case zzk14 => k_handed); k_whole))))) | (k_end; wrow_close) | walk1 | dsimp only | (leave1; try dsimp only) | fail "no step")
    all_goals (try dsimp only)
    all_goals (try (k_unfold; dsimp only))
    refine Done.intro (by k_asm) (by k_asm) ?_
    exact ⟨fun p hp => .tail _ hp, _, _, _, rfl, ⟨by k_ne, by k_ne, by k_ne, by k_ne, by k_ne, by k_ne, by k_ne, trivial⟩, hIt, .head _⟩
end
set_option maxRecDepth 100000
set_option maxHeartbeats 8000000
set_option rowWalk.seconds 0
section
variable {w : World} {p : Program} {loose : List Str} {mean : ExcName → Option Value} {mg mb : Str → Option Value} {dp un : Nat} {gd : Option (List Code)} {cn : Str} {cs : Scope} {a : Addr} {ccd : Value} {cl : List (Str × Addr)} {outer : List Env} {A₀ : Around} {base h₀ : Heap} {L : Addr} {m : Str → Option Value} {news : List (Addr × Obj)} {s : Shared} {Q E : Value → Shared → Prop}
theorem ksKw {M : Model} {A : Around} {c : Code} {env : Env} {o : PySem.Expr} {name : Str} {apos pos : Pos} {args : List PySem.Expr} {kws : List Keyword} {pl : Sem Bool} {Q : Value → Shared → Prop}
    (h : PySem.wpAt M A c (attributeBase o name env (eval o env)) (fun ov s₁ => wpAny M A (getMethod ov name pl) (fun fx s₂ => wpAny M A (callWith pos fx.1 fx.2 (backTo pos (starEach args env)) (backToKw pos (keywordEach kws env))) Q E s₂) E s₁) E s)
    (he : eval (.Call (.Attribute o name apos) args kws pos) env = (do
      let ov ← attributeBase o name env (eval o env)
      standAt apos.atName
      let (f, first) ← holding [ov] (getMethod ov name pl)
      callWith pos f first (backTo pos (starEach args env)) (backToKw pos (keywordEach kws env))) := by rfl) :
    PySem.wpAt M A c (eval (.Call (.Attribute o name apos) args kws pos) env) Q E s := by
  rw [he]
  refine PySem.wpAt_bind (PySem.wpAt_mono h (fun ov s₁ h₁ => PySem.wpAt_of_wpAny (wpAny_bind (wpAny_standAt (wpAny_bind (wpAny_holding (wpAny_mono h₁ (fun fx s₂ h₂ => ?_) fun _ _ x => x)))))) fun _ _ x => x)
  exact h₂
theorem callWith_MKW {M : Model} {A : Around} {K : Frag} {env : Env} {pos : Pos} {first : List Value} {Q : Value → Shared → Prop} {q g : Addr} {self : Value} {e : PySem.Expr} {rest : List PySem.Expr} {kws : List Keyword} (_X : K.In h₀) (_N : News h₀ L s.heap news) (_q : (q, methodObj (.ref g) self) ∈ news) (hf : fnIn K g = true) (hall : (backToKw pos (keywordEach kws env)).all (·.1.isSome) = true)
    (h : wpAny M A (spliced (backTo pos (starEach (e :: rest) env))) (fun vs s₁ => wpAny M A (evalAll ((backToKw pos (keywordEach kws env)).map (·.2)))
      (fun ks s₂ => MethP K q g self s₂.heap ∧ wpAny M A (call (.ref q) (first ++ vs) (((backToKw pos (keywordEach kws env)).filterMap (·.1)).zip ks)) Q E s₂) E s₁) E s)
    (hplain : ((backTo pos (starEach (e :: rest) env)).any (·.1) || (backToKw pos (keywordEach kws env)).any (·.1.isNone)) = false := by rfl) (he : starEach (e :: rest) env = (false, eval e env) :: starEach rest env := by rfl) :
    wpAny M A (callWith pos (.ref q) first (backTo pos (starEach (e :: rest) env)) (backToKw pos (keywordEach kws env))) Q E s :=
  callWith_of hplain (keeps_M hf) (evalArgs_kw2 hall h he)
end
theorem top_YMat3 : True := by
  w_top off
  trivial
set_option maxRecDepth 100000
set_option maxHeartbeats 8000000
set_option rowWalk.seconds 0
local macro_rules | `(tactic| walk_at "wpAt") => `(tactic| ((with_reducible show PySem.wpAt _ _ _ (eval (Expr.Call (Expr.Attribute (Expr.Call _ _ _ _) _ _) _ _ _) _) _ _ _); refine ksKw ?_))
section
variable {w : World} {p : Program} {loose : List Str} {mean : ExcName → Option Value} {mg mb : Str → Option Value} {dp un : Nat} {gd : Option (List Code)} {cn : Str} {cs : Scope} {a : Addr} {ccd : Value} {cl : List (Str × Addr)} {outer : List Env} {A₀ : Around} {base h₀ : Heap} {L : Addr} {m : Str → Option Value} {news : List (Addr × Obj)} {s : Shared} {Q E : Value → Shared → Prop}
abbrev modDict (P : Params) (t1 : Tok) (R : Addr) : Obj := dictOf [⟨PyData.keyHash P (Str.ofString "ring"), .str (Str.ofString "ring") t1, .ref R⟩] 1
abbrev matDict (P : Params) (t1 t2 t3 : Tok) (Mo D : Addr) (b : Bool) : Obj :=
  dictOf [⟨PyData.keyHash P (Str.ofString "parent"), .str (Str.ofString "parent") t1, .ref Mo⟩, ⟨PyData.keyHash P (Str.ofString "_data"), .str (Str.ofString "_data") t2, .ref D⟩, ⟨PyData.keyHash P (Str.ofString "_transpose"), .str (Str.ofString "_transpose") t3, .bool b⟩] 3
def MatP (P : Params) (Mo D : Addr) (b : Bool) (sub : List (Addr × Obj)) (v : Value) (_h : Heap) (led : List (Addr × Obj)) : Prop :=
  (∀ p ∈ sub, p ∈ led) ∧ ∃ x dx t1 t2 t3, v = .ref x ∧ GnNe x sub ∧ GnNe dx sub ∧ @Ne Nat dx x ∧ (x, instObj 638 dx) ∈ led ∧ (dx, matDict P t1 t2 t3 Mo D b) ∈ led
theorem mat_use (B : Below A₀ base outer h₀) (F : Fr h₀ L s.heap m) (X : (hdK.heap_1_39 w.params).In h₀) (N : News h₀ L s.heap news) (T : Top p loose mean mg mb h₀) (hk : cs.kind = .function)
   {Mo dM R D l : Addr} {u1 : Tok} {its : Array Value} {kd kl : Nat} {b : Bool}
   (m1 : (Mo, instObj 673 dM) ∈ news) (m2 : (dM, modDict w.params u1 R) ∈ news) (m3 : (D, listOf #[.ref l] kd) ∈ news) (m4 : (l, listOf its kl) ∈ news)
   (hsz : its.size < 8) (hd : dp + 60 < recursionLimit)
   (ret : ∀ x dx t1 t2 t3 h' tk', GnNe dx news → GnNe x ((dx, matDict w.params t1 t2 t3 Mo D b) :: news) → Fr h₀ L h' m → News h₀ L h' ((x, instObj 638 dx) :: (dx, matDict w.params t1 t2 t3 Mo D b) :: news) → s.heap.StaysIn h' → Q (.ref x) {s with heap := h', toks := tk'}) :
   wpAny (model (PySem.Challenge.rw_yi0033_01.row.toRowW.prog) w) (ktrTop dp un gd cn cs L a ccd cl outer) (call (.ref 662) [.ref Mo, .ref D] [(Str.ofString "transpose", .bool b)]) Q E s := by
  have hsub : ∀ p ∈ [(Mo, instObj 673 dM), (dM, modDict w.params u1 R), (D, listOf #[.ref l] kd), (l, listOf its kl)], p ∈ news := by
    intro p hp
    rcases List.mem_cons.mp hp with rfl | hp
    · exact m1
    rcases List.mem_cons.mp hp with rfl | hp
    · exact m2
    rcases List.mem_cons.mp hp with rfl | hp
    · exact m3
    rcases List.mem_cons.mp hp with rfl | hp
    · exact m4
    cases hp
  have N2 := News.sub N hsub
  refine wpAny_call ?_
  k_dflt (refine' code_S (fun g => Done g s (MatP w.params Mo D b [(Mo, instObj 673 dM), (dM, modDict w.params u1 R), (D, listOf #[.ref l] kd), (l, listOf its kl)])) ?k1 ?k2 ?k3 N2 ?k5 ?kA ?kF ?kK ?k6 ?k7 ?k8 ?k9 ?kB ?_ ?fin ?c2 ?c3 ?c4 ?c5; ((case kA => exact rfl); (case kF => first | exact rfl | assumption); (case kK => assumption); (case k1 => k_asm); (case k2 => k_asm); (case k3 => k_asm); (case k5 => k_asm); (case k6 => k_is); (case k7 => k_is); (case k8 => ktr_room); (case k9 => first | exact BindsTo.of_eq rfl | exact binds_K (by k_in) rfl (by k_is) rfl rfl rfl); (case c5 => decide); (case kB => exact locs rfl); (case c2 => exact rfl); (case c3 => exact rfl); (case c4 => exact rfl)))
  case fin =>
    intro v s' d
    obtain ⟨h', tk, led, rfl, k, hl, hs, x, dx, t1, t2, t3, rfl, g1, g2, n1, e1', e2'⟩ := d.pure (fun p hp => (N2 p hp).1) (fun _ _ _ q => q.1)
    have hx := fresh_of hl e1' g1
    have hdx := fresh_of hl e2' g2
    exact ret x dx t1 t2 t3 h' tk (fresh_ne N hdx) ⟨n1, fresh_ne N hx⟩ (Fr.stays F k) (fresh_news F hx (fresh_news F hdx (News.stays N k) (hl _ e2').1) (hl _ e1').1) k
  intro g' L' h' F' N' B' X' T' l1
  clear N2 N F X ret hsub
  k_lt l1
  with_reducible show wpAny _ _ _ _ _ _
  k_fold
  repeat' (first | (k_unfold; (try dsimp only)) | ((with_reducible refine qb1 ?_); (try dsimp only)) | ((with_reducible refine qb2 ?_); (try dsimp only)) | ((with_reducible refine qa1 ?_); (try dsimp only)) | ((with_reducible refine qa2 ?_); (try dsimp only [List.cons_append, List.nil_append])) | ((with_reducible refine qs1 ?_); (try dsimp only)) | ((with_reducible refine qs2 ?_); (try dsimp only)) | (with_reducible refine qs3 ?_) | (with_reducible refine qs4 ?_) | ((with_reducible refine qc1 ?_); (try dsimp only)) | ((with_reducible refine qu1 ?_); (try dsimp only)) | (with_reducible refine qu2 ?_) | ((with_reducible refine qg1 ?_); (try dsimp only)) | (with_reducible refine qg2 ?_) | ((with_reducible refine qt1 ?_); (try dsimp only)) | ((with_reducible refine qr1 ?_); (try dsimp only)) | (with_reducible refine qb0 ?_) | (with_reducible refine qu0 ?_) | ((with_reducible show wpAny _ _ (spliced (backTo _ (starEach (_ :: _) _))) _ _ _); k_dflt (refine qa0 ?_)) | ((with_reducible show wpAny _ _ (execs (_ :: _) _) _ _ _); first | (k_here; k_gentoks) | (with_reducible refine qs0 ?_)) | ((with_reducible show wpAny _ _ (eval (PySem.Expr.Call (PySem.Expr.Name _ _) _ [] _) _) _ _ _); (fail_if_success (with_reducible show wpAny _ _ (eval _ (compEnvC _ _ _ _)) _ _ _)); k_dflt (refine qc0 ?_)) | ((with_reducible show wpAny _ _ (exec (Stmt.Assign [PySem.Expr.Name _ _] _ _) _) _ _ _); (fail_if_success (with_reducible show wpAny _ _ (exec (Stmt.Assign _ (PySem.Expr.ListComp _ _ _ _) _) _) _ _ _)); k_dflt (refine qg0 ?_)) | ((with_reducible show wpAny _ _ (eval (PySem.Expr.Attribute (PySem.Expr.Name _ _) _ _) _) _ _ _); k_dflt (refine qt0 ?_)) | (with_reducible refine qr0 ?_) | ((with_reducible show wpAny _ _ (call (Value.ref _) _ _) _ _ _); first | (with_reducible (k_here; (with_reducible show wpAny _ _ (call (Value.ref 638) _ _) _ _ _); k_dflt ((show wpAny _ _ (call (Value.ref 638) [_, _] [(Str.ofString "transpose", Value.bool _)]) _ _ _); (refine' call_cls ?zzk1 ?zzk2 ?zzk3 ?zzk4 ?zzk5 ?zzk6 ?_; (case zzk1 => k_asm); (case zzk2 => k_asm); (case zzk3 => k_asm); (case zzk4 => k_is); (case zzk5 => k_is); (case zzk6 => k_is); intro x' d' h' F' N' l1 l2; (try k_lt l1); (try k_lt2 l2); (refine' ks_code_super ?zzk1 ?zzk2 ?zzk3 ?zzk4 ?zzk5 ?zzkA ?zzkF ?zzkK ?zzk6 ?zzk7 ?zzk8 ?zzk9 ?zzkB ?_ ?zzc1 ?zzc2 ?zzc3 ?zzc4; (case zzkA => exact rfl); (case zzkF => exact rfl); (case zzkK => exact rfl); (case zzk1 => k_asm); (case zzk2 => k_asm); (case zzk3 => k_asm); (case zzk4 => k_asm); (case zzk5 => k_asm); (case zzk6 => k_is); (case zzk7 => k_is); (case zzk8 => k_room); (case zzk9 => first | exact BindsTo.of_eq rfl | exact binds_K (by k_in) rfl (by k_is) rfl rfl rfl); (case zzkB => exact locs rfl); (case zzc1 => decide); (case zzc2 => exact rfl); (case zzc3 => exact rfl); (case zzc4 => exact rfl); intro g' L' h' FG' F' N' B' X' T' l1; (try k_lt l1); (try dsimp only); (try k_lift B'))))))) | ((with_reducible show wpAny _ _ (call (Value.builtin "len") _ _) _ _ _); (with_reducible (k_here; (with_reducible show wpAny _ _ (call (Value.builtin "len") [Value.ref _]) _ _ _); k_dflt (refine' KM.len_K ?zzk1 ?zzk2 ?zzk3 ?zzk4 ?_; (case zzk1 => k_asm); (case zzk2 => (first | walk_at "mm" | k_mem)); (case zzk3 => exact rfl); (case zzk4 => omega); k_whole)))) | ((with_reducible show wpAny _ _ (callWith _ (Value.ref _) _ _ _) _ _ _); (with_reducible (k_here; k_dflt (refine' callWith_MKW ?zzk1 ?zzk2 ?zzk3 ?zzk4 ?zzk5 ?_; (case zzk1 => k_asm); (case zzk2 => k_asm); (case zzk3 => (first | walk_at "mm" | k_mem)); (case zzk4 => k_is); (case zzk5 => exact rfl); k_whole)))) | ((with_reducible show wpAny _ _ (setItem (Value.ref _) (Value.int _ _) _) _ _ _); (with_reducible (k_here; (with_reducible show wpAny _ _ (setItem (Value.ref _) (Value.int _ _) _) _ _ _); k_dflt (refine' set_here ?zzk1 ?zzk2 ?zzk3 ?zzk4 ?zzk5 ?zzk6 ?zzk7 ?_; (case zzk1 => k_asm); (case zzk2 => k_asm); (case zzk3 => k_upd); (case zzk4 => decide); (case zzk5 => simp; done); (case zzk6 => decide); (case zzk7 => exact rfl); k_whole); intro h' F' N'; (simp only [List.setIfInBounds_toArray, Int.toNat_zero, Int.reduceToNat, List.set_cons_zero, List.set_cons_succ] at N'); (try k_sweep)))) | ((with_reducible show wpAny _ _ (getMethod (Value.ref _) _ _) _ _ _); (with_reducible (k_here; k_dflt (first | (refine' method_inst ?zzk1 ?zzk2 ?zzk3 ?zzk4 ?zzk5 ?zzk6 ?zzk7 ?_; (case zzk1 => k_asm); (case zzk2 => k_asm); (case zzk3 => k_inst); (case zzk4 => k_is); (case zzk5 => k_is); (case zzk6 => k_is); (case zzk7 => k_get); k_whole) | (refine' kmu_own ?zzk1 ?zzk2 ?zzk3 ?zzk4 ?zzk5 ?_; (case zzk1 => k_asm); (case zzk2 => k_asm); (case zzk3 => k_inst); (case zzk4 => k_is); (case zzk5 => k_is); k_whole) | (refine' kmu_sm ?zzk1 ?zzk2 ?zzk4 ?zzk5 ?zzk6 ?zzk7 ?zzk8 ?zzk9 ?zzk10 ?zzk11 ?zzk12 ?zzk13 ?zzk14 ?_; (case zzk1 => k_asm); (case zzk2 => k_asm); (case zzk4 => k_inst); (case zzk5 => k_is); (case zzk6 => k_is); (case zzk7 => k_is); (case zzk8 => k_is); (case zzk9 => k_is); (case zzk10 => k_is); (case zzk11 => decide +kernel); (case zzk12 => k_get); (case zzk13 => k_is); (case zzk14 => k_handed); k_whole))))) | (k_end; wrow_close) | walk1 | dsimp only | (leave1; try dsimp only) | fail "no step")
  all_goals (try dsimp only)
  all_goals (try (k_unfold; dsimp only))
  all_goals (try contradiction)
  refine Done.intro (by k_asm) (by k_asm) ?_
  refine' ⟨?sb, _, _, _, _, _, rfl, ?g1, ?g2, ?n1, ?m1, ?m2⟩
  case m1 => (first | walk_at "mm" | k_mem)
  case m2 => (first | walk_at "mm" | k_mem)
  case n1 => first | omega | (refine neN ?_; omega)
  case sb => exact fun p hp => .tail _ (.tail _ (.tail _ (.tail _ hp)))
  case g1 => exact ⟨by first | k_ne | omega, by first | k_ne | omega, by first | k_ne | omega, by first | k_ne | omega, trivial⟩
  case g2 => exact ⟨by first | k_ne | omega, by first | k_ne | omega, by first | k_ne | omega, by first | k_ne | omega, trivial⟩
end
theorem top_YGet : True := by
  w_top off
  trivial
set_option maxRecDepth 100000
set_option maxHeartbeats 8000000
set_option rowWalk.seconds 0
section
variable {w : World} {p : Program} {loose : List Str} {mean : ExcName → Option Value} {mg mb : Str → Option Value} {dp un : Nat} {gd : Option (List Code)} {cn : Str} {cs : Scope} {a : Addr} {ccd : Value} {cl : List (Str × Addr)} {outer : List Env} {A₀ : Around} {base h₀ : Heap} {L : Addr} {m : Str → Option Value} {news : List (Addr × Obj)} {s : Shared} {Q E : Value → Shared → Prop}
abbrev tupObj (v1 v2 : Value) : Obj := { cls := .type "tuple", data := .seq #[v1, v2] }
theorem item_at {prog : Program} {A : Around} {value slice : PySem.Expr} {l : Addr} {its : Array Value} {k : Nat} {t : Tok} {v : Value} {kl : Nat}
    (N : News h₀ L s.heap news) (hm : (l, listOf its kl) ∈ news) (hx : its[k]? = some v) (hsz : its.size < 8) (h : Q v s)
    (hs : subscripted slice false (.ref l) (.int k t) = operate [.ref l, .int k t] (getItem (.ref l) (.int k t)) := by with_unfolding_all rfl) :
    wpAny (model prog w) A (subscriptTail value slice (.ref l) (.int k t)) Q E s := by
  have hl : s.heap.IsList l its := News.isList N hm
  have hk : k < its.size := by
    rcases Array.getElem?_eq_some_iff.mp hx with ⟨hk, _⟩
    exact hk
  exact tail_any hl.typeIs slot_list_getitem.lookup (wpAny_getItem_list hl (by omega) (by omega) (by simpa using hx) h) hs
def PureP (P : Value → Prop) (sub : List (Addr × Obj)) (v : Value) (_h : Heap) (led : List (Addr × Obj)) : Prop := (∀ p ∈ sub, p ∈ led) ∧ P v
theorem get_row (B : Below A₀ base outer h₀) (F : Fr h₀ L s.heap m) (X : (hdK.heap_1_39 w.params).In h₀) (N : News h₀ L s.heap news) (T : Top p loose mean mg mb h₀) {env : Env} (hf : env.frame = some L) (hk : env.scope.kind = .function)
   {x dx Mo D l T1 : Addr} {t1 t2 t3 : Tok} {its : Array Value} {kd kl k : Nat} {u1 u2 : Tok} {v : Value}
   (m1 : (x, instObj 638 dx) ∈ news) (m2 : (dx, matDict w.params t1 t2 t3 Mo D false) ∈ news) (m3 : (D, listOf #[.ref l] kd) ∈ news) (m4 : (l, listOf its kl) ∈ news) (m5 : (T1, tupObj (.int 0 u1) (.int (k : Int) u2)) ∈ news)
   (hv : its[k]? = some v) (hsz : its.size < 8)
   (hd : dp + 30 < recursionLimit)
   (ret : ∀ h' tk', s.heap.StaysIn h' → Q v {s with heap := h', toks := tk'}) :
   wpAny (model (PySem.Challenge.rw_yi0033_01.row.toRowW.prog) w) ({ handled := none, depth := dp, frames := some (env :: outer), guards := gd, units := un } : Around) (call (.ref 284) [.ref x, .ref T1]) Q E s := by
  have hsub : ∀ p ∈ [(x, instObj 638 dx), (dx, matDict w.params t1 t2 t3 Mo D false), (D, listOf #[.ref l] kd), (l, listOf its kl), (T1, tupObj (.int 0 u1) (.int (k : Int) u2))], p ∈ news :=
    List.forall_mem_cons.mpr ⟨m1, List.forall_mem_cons.mpr ⟨m2, List.forall_mem_cons.mpr ⟨m3, List.forall_mem_cons.mpr ⟨m4, List.forall_mem_cons.mpr ⟨m5, List.forall_mem_nil _⟩⟩⟩⟩⟩
  have N2 := News.sub N hsub
  refine wpAny_call ?_
  k_dflt (refine' code_S (fun g => Done g s (PureP (· = v) [(x, instObj 638 dx), (dx, matDict w.params t1 t2 t3 Mo D false), (D, listOf #[.ref l] kd), (l, listOf its kl), (T1, tupObj (.int 0 u1) (.int (k : Int) u2))])) ?k1 ?k2 ?k3 N2 ?k5 ?kA ?kF ?kK ?k6 ?k7 ?k8 ?k9 ?kB ?_ ?fin ?c2 ?c3 ?c4 ?c5; ((case kA => exact rfl); (case kF => first | exact rfl | assumption); (case kK => assumption); (case k1 => k_asm); (case k2 => k_asm); (case k3 => k_asm); (case k5 => k_asm); (case k6 => k_is); (case k7 => k_is); (case k8 => ktr_room); (case k9 => first | exact BindsTo.of_eq rfl | exact binds_K (by k_in) rfl (by k_is) rfl rfl rfl); (case c5 => decide); (case kB => exact locs rfl); (case c2 => exact rfl); (case c3 => exact rfl); (case c4 => exact rfl)))
  case fin =>
    intro v s' d
    obtain ⟨h', tk, led, rfl, k, hl, hs, rfl⟩ := d.pure (fun p hp => (N2 p hp).1) (fun _ _ _ q => q.1)
    exact ret h' tk k
  intro g' L' h' F' N' B' X' T' l1
  clear N2 N F X ret hsub
  k_lt l1
  with_reducible show wpAny _ _ _ _ _ _
  k_fold
  repeat' (first | (k_unfold; (try dsimp only)) | ((with_reducible refine qb1 ?_); (try dsimp only)) | ((with_reducible refine qb2 ?_); (try dsimp only)) | ((with_reducible refine qa1 ?_); (try dsimp only)) | ((with_reducible refine qa2 ?_); (try dsimp only [List.cons_append, List.nil_append])) | ((with_reducible refine qs1 ?_); (try dsimp only)) | ((with_reducible refine qs2 ?_); (try dsimp only)) | (with_reducible refine qs3 ?_) | (with_reducible refine qs4 ?_) | ((with_reducible refine qc1 ?_); (try dsimp only)) | ((with_reducible refine qu1 ?_); (try dsimp only)) | (with_reducible refine qu2 ?_) | ((with_reducible refine qg1 ?_); (try dsimp only)) | (with_reducible refine qg2 ?_) | ((with_reducible refine qt1 ?_); (try dsimp only)) | ((with_reducible refine qr1 ?_); (try dsimp only)) | (with_reducible refine qb0 ?_) | (with_reducible refine qu0 ?_) | ((with_reducible show wpAny _ _ (spliced (backTo _ (starEach (_ :: _) _))) _ _ _); k_dflt (refine qa0 ?_)) | ((with_reducible show wpAny _ _ (execs (_ :: _) _) _ _ _); first | (k_here; k_gentoks) | (with_reducible refine qs0 ?_)) | ((with_reducible show wpAny _ _ (eval (PySem.Expr.Call (PySem.Expr.Name _ _) _ [] _) _) _ _ _); (fail_if_success (with_reducible show wpAny _ _ (eval _ (compEnvC _ _ _ _)) _ _ _)); k_dflt (refine qc0 ?_)) | ((with_reducible show wpAny _ _ (exec (Stmt.Assign [PySem.Expr.Name _ _] _ _) _) _ _ _); (fail_if_success (with_reducible show wpAny _ _ (exec (Stmt.Assign _ (PySem.Expr.ListComp _ _ _ _) _) _) _ _ _)); k_dflt (refine qg0 ?_)) | ((with_reducible show wpAny _ _ (eval (PySem.Expr.Attribute (PySem.Expr.Name _ _) _ _) _) _ _ _); k_dflt (refine qt0 ?_)) | (with_reducible refine qr0 ?_) | ((with_reducible show wpAny _ _ (subscriptTail _ _ _ _) _ _ _); (with_reducible (k_here; (with_reducible show wpAny _ _ (subscriptTail _ _ (Value.ref _) (Value.int _ _)) _ _ _); k_dflt (refine' item_at ?zzk1 ?zzk2 ?zzk3 ?zzk4 ?_ ?zzk6; (case zzk1 => k_asm); (case zzk2 => (first | walk_at "mm" | k_mem)); (case zzk3 => assumption); (case zzk4 => assumption); (case zzk6 => with_unfolding_all rfl); k_whole)))) | ((with_reducible show wpAny _ _ (setItem (Value.ref _) (Value.int _ _) _) _ _ _); (with_reducible (k_here; (with_reducible show wpAny _ _ (setItem (Value.ref _) (Value.int _ _) _) _ _ _); k_dflt (refine' set_here ?zzk1 ?zzk2 ?zzk3 ?zzk4 ?zzk5 ?zzk6 ?zzk7 ?_; (case zzk1 => k_asm); (case zzk2 => k_asm); (case zzk3 => k_upd); (case zzk4 => decide); (case zzk5 => simp; done); (case zzk6 => decide); (case zzk7 => exact rfl); k_whole); intro h' F' N'; (simp only [List.setIfInBounds_toArray, Int.toNat_zero, Int.reduceToNat, List.set_cons_zero, List.set_cons_succ] at N'); (try k_sweep)))) | ((with_reducible show wpAny _ _ (getMethod (Value.ref _) _ _) _ _ _); (with_reducible (k_here; k_dflt (first | (refine' method_inst ?zzk1 ?zzk2 ?zzk3 ?zzk4 ?zzk5 ?zzk6 ?zzk7 ?_; (case zzk1 => k_asm); (case zzk2 => k_asm); (case zzk3 => k_inst); (case zzk4 => k_is); (case zzk5 => k_is); (case zzk6 => k_is); (case zzk7 => k_get); k_whole) | (refine' kmu_own ?zzk1 ?zzk2 ?zzk3 ?zzk4 ?zzk5 ?_; (case zzk1 => k_asm); (case zzk2 => k_asm); (case zzk3 => k_inst); (case zzk4 => k_is); (case zzk5 => k_is); k_whole) | (refine' kmu_sm ?zzk1 ?zzk2 ?zzk4 ?zzk5 ?zzk6 ?zzk7 ?zzk8 ?zzk9 ?zzk10 ?zzk11 ?zzk12 ?zzk13 ?zzk14 ?_; (case zzk1 => k_asm); (case zzk2 => k_asm); (case zzk4 => k_inst); (case zzk5 => k_is); (case zzk6 => k_is); (case zzk7 => k_is); (case zzk8 => k_is); (case zzk9 => k_is); (case zzk10 => k_is); (case zzk11 => decide +kernel); (case zzk12 => k_get); (case zzk13 => k_is); (case zzk14 => k_handed); k_whole))))) | (k_end; wrow_close) | walk1 | dsimp only | (leave1; try dsimp only) | fail "no step")
  all_goals (try dsimp only)
  all_goals (try (k_unfold; dsimp only))
  refine Done.intro (by k_asm) (by k_asm) ?_
  exact ⟨by lcg_sub, rfl⟩
theorem get_col (B : Below A₀ base outer h₀) (F : Fr h₀ L s.heap m) (X : (hdK.heap_1_39 w.params).In h₀) (N : News h₀ L s.heap news) (T : Top p loose mean mg mb h₀) {env : Env} (hf : env.frame = some L) (hk : env.scope.kind = .function)
   {x dx Mo D l T1 : Addr} {t1 t2 t3 : Tok} {its : Array Value} {kd kl k : Nat} {u1 u2 : Tok} {v : Value}
   (m1 : (x, instObj 638 dx) ∈ news) (m2 : (dx, matDict w.params t1 t2 t3 Mo D true) ∈ news) (m3 : (D, listOf #[.ref l] kd) ∈ news) (m4 : (l, listOf its kl) ∈ news) (m5 : (T1, tupObj (.int (k : Int) u1) (.int 0 u2)) ∈ news)
   (hv : its[k]? = some v) (hsz : its.size < 8)
   (hd : dp + 30 < recursionLimit)
   (ret : ∀ h' tk', s.heap.StaysIn h' → Q v {s with heap := h', toks := tk'}) :
   wpAny (model (PySem.Challenge.rw_yi0033_01.row.toRowW.prog) w) ({ handled := none, depth := dp, frames := some (env :: outer), guards := gd, units := un } : Around) (call (.ref 284) [.ref x, .ref T1]) Q E s := by
  have hsub : ∀ p ∈ [(x, instObj 638 dx), (dx, matDict w.params t1 t2 t3 Mo D true), (D, listOf #[.ref l] kd), (l, listOf its kl), (T1, tupObj (.int (k : Int) u1) (.int 0 u2))], p ∈ news :=
    List.forall_mem_cons.mpr ⟨m1, List.forall_mem_cons.mpr ⟨m2, List.forall_mem_cons.mpr ⟨m3, List.forall_mem_cons.mpr ⟨m4, List.forall_mem_cons.mpr ⟨m5, List.forall_mem_nil _⟩⟩⟩⟩⟩
  have N2 := News.sub N hsub
  refine wpAny_call ?_
  k_dflt (refine' code_S (fun g => Done g s (PureP (· = v) [(x, instObj 638 dx), (dx, matDict w.params t1 t2 t3 Mo D true), (D, listOf #[.ref l] kd), (l, listOf its kl), (T1, tupObj (.int (k : Int) u1) (.int 0 u2))])) ?k1 ?k2 ?k3 N2 ?k5 ?kA ?kF ?kK ?k6 ?k7 ?k8 ?k9 ?kB ?_ ?fin ?c2 ?c3 ?c4 ?c5; ((case kA => exact rfl); (case kF => first | exact rfl | assumption); (case kK => assumption); (case k1 => k_asm); (case k2 => k_asm); (case k3 => k_asm); (case k5 => k_asm); (case k6 => k_is); (case k7 => k_is); (case k8 => ktr_room); (case k9 => first | exact BindsTo.of_eq rfl | exact binds_K (by k_in) rfl (by k_is) rfl rfl rfl); (case c5 => decide); (case kB => exact locs rfl); (case c2 => exact rfl); (case c3 => exact rfl); (case c4 => exact rfl)))
  case fin =>
    intro v s' d
    obtain ⟨h', tk, led, rfl, k, hl, hs, rfl⟩ := d.pure (fun p hp => (N2 p hp).1) (fun _ _ _ q => q.1)
    exact ret h' tk k
  intro g' L' h' F' N' B' X' T' l1
  clear N2 N F X ret hsub
  k_lt l1
  with_reducible show wpAny _ _ _ _ _ _
  k_fold
  repeat' (first | (k_unfold; (try dsimp only)) | ((with_reducible refine qb1 ?_); (try dsimp only)) | ((with_reducible refine qb2 ?_); (try dsimp only)) | ((with_reducible refine qa1 ?_); (try dsimp only)) | ((with_reducible refine qa2 ?_); (try dsimp only [List.cons_append, List.nil_append])) | ((with_reducible refine qs1 ?_); (try dsimp only)) | ((with_reducible refine qs2 ?_); (try dsimp only)) | (with_reducible refine qs3 ?_) | (with_reducible refine qs4 ?_) | ((with_reducible refine qc1 ?_); (try dsimp only)) | ((with_reducible refine qu1 ?_); (try dsimp only)) | (with_reducible refine qu2 ?_) | ((with_reducible refine qg1 ?_); (try dsimp only)) | (with_reducible refine qg2 ?_) | ((with_reducible refine qt1 ?_); (try dsimp only)) | ((with_reducible refine qr1 ?_); (try dsimp only)) | (with_reducible refine qb0 ?_) | (with_reducible refine qu0 ?_) | ((with_reducible show wpAny _ _ (spliced (backTo _ (starEach (_ :: _) _))) _ _ _); k_dflt (refine qa0 ?_)) | ((with_reducible show wpAny _ _ (execs (_ :: _) _) _ _ _); first | (k_here; k_gentoks) | (with_reducible refine qs0 ?_)) | ((with_reducible show wpAny _ _ (eval (PySem.Expr.Call (PySem.Expr.Name _ _) _ [] _) _) _ _ _); (fail_if_success (with_reducible show wpAny _ _ (eval _ (compEnvC _ _ _ _)) _ _ _)); k_dflt (refine qc0 ?_)) | ((with_reducible show wpAny _ _ (exec (Stmt.Assign [PySem.Expr.Name _ _] _ _) _) _ _ _); (fail_if_success (with_reducible show wpAny _ _ (exec (Stmt.Assign _ (PySem.Expr.ListComp _ _ _ _) _) _) _ _ _)); k_dflt (refine qg0 ?_)) | ((with_reducible show wpAny _ _ (eval (PySem.Expr.Attribute (PySem.Expr.Name _ _) _ _) _) _ _ _); k_dflt (refine qt0 ?_)) | (with_reducible refine qr0 ?_) | ((with_reducible show wpAny _ _ (subscriptTail _ _ _ _) _ _ _); (with_reducible (k_here; (with_reducible show wpAny _ _ (subscriptTail _ _ (Value.ref _) (Value.int _ _)) _ _ _); k_dflt (refine' item_at ?zzk1 ?zzk2 ?zzk3 ?zzk4 ?_ ?zzk6; (case zzk1 => k_asm); (case zzk2 => (first | walk_at "mm" | k_mem)); (case zzk3 => assumption); (case zzk4 => assumption); (case zzk6 => with_unfolding_all rfl); k_whole)))) | ((with_reducible show wpAny _ _ (setItem (Value.ref _) (Value.int _ _) _) _ _ _); (with_reducible (k_here; (with_reducible show wpAny _ _ (setItem (Value.ref _) (Value.int _ _) _) _ _ _); k_dflt (refine' set_here ?zzk1 ?zzk2 ?zzk3 ?zzk4 ?zzk5 ?zzk6 ?zzk7 ?_; (case zzk1 => k_asm); (case zzk2 => k_asm); (case zzk3 => k_upd); (case zzk4 => decide); (case zzk5 => simp; done); (case zzk6 => decide); (case zzk7 => exact rfl); k_whole); intro h' F' N'; (simp only [List.setIfInBounds_toArray, Int.toNat_zero, Int.reduceToNat, List.set_cons_zero, List.set_cons_succ] at N'); (try k_sweep)))) | ((with_reducible show wpAny _ _ (getMethod (Value.ref _) _ _) _ _ _); (with_reducible (k_here; k_dflt (first | (refine' method_inst ?zzk1 ?zzk2 ?zzk3 ?zzk4 ?zzk5 ?zzk6 ?zzk7 ?_; (case zzk1 => k_asm); (case zzk2 => k_asm); (case zzk3 => k_inst); (case zzk4 => k_is); (case zzk5 => k_is); (case zzk6 => k_is); (case zzk7 => k_get); k_whole) | (refine' kmu_own ?zzk1 ?zzk2 ?zzk3 ?zzk4 ?zzk5 ?_; (case zzk1 => k_asm); (case zzk2 => k_asm); (case zzk3 => k_inst); (case zzk4 => k_is); (case zzk5 => k_is); k_whole) | (refine' kmu_sm ?zzk1 ?zzk2 ?zzk4 ?zzk5 ?zzk6 ?zzk7 ?zzk8 ?zzk9 ?zzk10 ?zzk11 ?zzk12 ?zzk13 ?zzk14 ?_; (case zzk1 => k_asm); (case zzk2 => k_asm); (case zzk4 => k_inst); (case zzk5 => k_is); (case zzk6 => k_is); (case zzk7 => k_is); (case zzk8 => k_is); (case zzk9 => k_is); (case zzk10 => k_is); (case zzk11 => decide +kernel); (case zzk12 => k_get); (case zzk13 => k_is); (case zzk14 => k_handed); k_whole))))) | (k_end; wrow_close) | walk1 | dsimp only | (leave1; try dsimp only) | fail "no step")
  all_goals (try dsimp only)
  all_goals (try (k_unfold; dsimp only))
  refine Done.intro (by k_asm) (by k_asm) ?_
  exact ⟨by lcg_sub, rfl⟩
end
theorem top_YMul : True := by
  w_top off
  trivial
set_option maxRecDepth 100000
set_option maxHeartbeats 2000000
set_option rowWalk.seconds 0
section
variable {w : World} {p : Program} {loose : List Str} {mean : ExcName → Option Value} {mg mb : Str → Option Value} {dp un : Nat} {gd : Option (List Code)} {cn : Str} {cs : Scope} {a : Addr} {ccd : Value} {cl : List (Str × Addr)} {outer : List Env} {A₀ : Around} {base h₀ : Heap} {L : Addr} {m : Str → Option Value} {news : List (Addr × Obj)} {s : Shared} {Q E : Value → Shared → Prop}

def MulP (P : Params) (R : Addr) (sub : List (Addr × Obj)) (cL : List Int) (v : Value) (_h : Heap) (led : List (Addr × Obj)) : Prop :=
  (∀ p ∈ sub, p ∈ led) ∧ ∃ x dx c u1 u2 its kk, v = .ref x ∧ GnNe x sub ∧ GnNe dx sub ∧ GnNe c sub ∧ @Ne Nat dx x ∧ @Ne Nat c x ∧ @Ne Nat c dx ∧ IntsAre its cL ∧ (x, instObj 581 dx) ∈ led ∧ (dx, polyDict P u1 u2 R c) ∈ led ∧ (c, listOf its.toArray kk) ∈ led
theorem mul_use (B : Below A₀ base outer h₀) (F : Fr h₀ L s.heap m) (X : (hdK.heap_1_39 w.params).In h₀) (N : News h₀ L s.heap news) (T : Top p loose mean mg mb h₀) {env : Env} (hf : env.frame = some L) (hk : env.scope.kind = .function)
   {x dx y dy R dR z f g : Addr} {u1 u2 v1 v2 t1 t2 t3 t4 t5 t6 t7 : Tok} {zs fs gs : List Value} {fl gl : List Int} {kz kf kg : Nat}
   (m1 : (x, instObj 581 dx) ∈ news) (m2 : (dx, polyDict w.params u1 u2 R f) ∈ news) (m8 : (y, instObj 581 dy) ∈ news) (m9 : (dy, polyDict w.params v1 v2 R g) ∈ news) (m3 : (R, instObj 437 dR) ∈ news) (m4 : (dR, ringDict w.params t1 t2 t3 t4 t5 t6 t7 z) ∈ news) (m5 : (z, listOf zs.toArray kz) ∈ news)
   (m6 : (f, listOf fs.toArray kf) ∈ news) (m7 : (g, listOf gs.toArray kg) ∈ news) (hZ : IntsAre zs zetaL) (hF : IntsAre fs fl) (hG : IntsAre gs gl) (lF : fl.length = 256) (lG : gl.length = 256)
   (sF : Small fl) (sG : Small gl)
   (hd : dp + 60 < recursionLimit)
   (ret : ∀ x dx c u1 u2 its kk h' tk', IntsAre its (mulP fl gl 64) → Fr h₀ L h' m → News h₀ L h' ((x, instObj 581 dx) :: (dx, polyDict w.params u1 u2 R c) :: (c, listOf its.toArray kk) :: news) → GnNe c news → GnNe dx ((c, listOf its.toArray kk) :: news) → GnNe x ((dx, polyDict w.params u1 u2 R c) :: (c, listOf its.toArray kk) :: news) → s.heap.StaysIn h' → s.heap.get? x = none → s.heap.get? dx = none → s.heap.get? c = none → Q (.ref x) {s with heap := h', toks := tk'}) :
   wpAny (model (PySem.Challenge.rw_yi0033_01.row.toRowW.prog) w) ({ handled := none, depth := dp, frames := some (env :: outer), guards := gd, units := un } : Around) (call (.ref 578) [.ref x, .ref y]) Q E s := by
  have hsub : ∀ p ∈ [(x, instObj 581 dx), (dx, polyDict w.params u1 u2 R f), (y, instObj 581 dy), (dy, polyDict w.params v1 v2 R g), (R, instObj 437 dR), (dR, ringDict w.params t1 t2 t3 t4 t5 t6 t7 z), (z, listOf zs.toArray kz), (f, listOf fs.toArray kf), (g, listOf gs.toArray kg)], p ∈ news := by
    intro p hp
    rcases List.mem_cons.mp hp with rfl | hp
    · exact m1
    rcases List.mem_cons.mp hp with rfl | hp
    · exact m2
    rcases List.mem_cons.mp hp with rfl | hp
    · exact m8
    rcases List.mem_cons.mp hp with rfl | hp
    · exact m9
    rcases List.mem_cons.mp hp with rfl | hp
    · exact m3
    rcases List.mem_cons.mp hp with rfl | hp
    · exact m4
    rcases List.mem_cons.mp hp with rfl | hp
    · exact m5
    rcases List.mem_cons.mp hp with rfl | hp
    · exact m6
    rcases List.mem_cons.mp hp with rfl | hp
    · exact m7
    cases hp
  have N2 := News.sub N hsub
  refine wpAny_call ?_
  k_dflt (refine' code_SC (fun g' => Done g' s (MulP w.params R [(x, instObj 581 dx), (dx, polyDict w.params u1 u2 R f), (y, instObj 581 dy), (dy, polyDict w.params v1 v2 R g), (R, instObj 437 dR), (dR, ringDict w.params t1 t2 t3 t4 t5 t6 t7 z), (z, listOf zs.toArray kz), (f, listOf fs.toArray kf), (g, listOf gs.toArray kg)] (mulP fl gl 64))) ?k1 ?k2 ?k3 N2 ?k5 ?kA ?kF ?kK ?k6 ?k7 ?k8 ?k9 ?kB ?kD ?_ ?fin ?c2 ?c3 ?c4; ((case kA => exact rfl); (case kF => first | exact rfl | assumption); (case kK => assumption); (case k1 => k_asm); (case k2 => k_asm); (case k3 => k_asm); (case k5 => k_asm); (case k6 => k_is); (case k7 => k_is); (case k8 => ktr_room); (case k9 => first | exact BindsTo.of_eq rfl | exact binds_K (by k_in) rfl (by k_is) rfl rfl rfl); (case kB => exact rfl); (case kD => decide +kernel); (case c2 => exact rfl); (case c3 => exact rfl); (case c4 => exact rfl)))
  case fin =>
    intro v s' d
    obtain ⟨h', tk, led, rfl, k, hl, hs, x, dx, c, u1, u2, its, kk, rfl, g1, g2, g3, n1, n2, n3, i1, e1, e2, e3⟩ := d.pure (fun p hp => (N2 p hp).1) (fun _ _ _ q => q.1)
    have hx := fresh_of hl e1 g1
    have hdx := fresh_of hl e2 g2
    have hc := fresh_of hl e3 g3
    exact ret x dx c u1 u2 its kk h' tk i1 (Fr.stays F k) (fresh_news F hx (fresh_news F hdx (fresh_news F hc (News.stays N k) (hl _ e3).1) (hl _ e2).1) (hl _ e1).1) (fresh_ne N hc) ⟨n3, fresh_ne N hdx⟩ ⟨n1, n2, fresh_ne N hx⟩ k hx hdx hc
  intro g' L' h' tk' cells' F' N' Y' B' X' T' l1
  clear N2 N F X ret hsub
  have l1' := l1
  k_lt l1
  k_cells Y'
  have gL1 := gnc1 l1'
  have gL2 := gnc2 l1'
  simp only [List.cons_append, List.nil_append] at N'
  with_reducible show wpAny _ _ _ _ _ _
  k_fold
  repeat' (first | (k_unfold; (try dsimp only)) | ((with_reducible refine qb1 ?_); (try dsimp only)) | ((with_reducible refine qb2 ?_); (try dsimp only)) | ((with_reducible refine qa1 ?_); (try dsimp only)) | ((with_reducible refine qa2 ?_); (try dsimp only [List.cons_append, List.nil_append])) | ((with_reducible refine qs1 ?_); (try dsimp only)) | ((with_reducible refine qs2 ?_); (try dsimp only)) | (with_reducible refine qs3 ?_) | (with_reducible refine qs4 ?_) | ((with_reducible refine qc1 ?_); (try dsimp only)) | ((with_reducible refine qu1 ?_); (try dsimp only)) | (with_reducible refine qu2 ?_) | ((with_reducible refine qg1 ?_); (try dsimp only)) | (with_reducible refine qg2 ?_) | ((with_reducible refine qt1 ?_); (try dsimp only)) | ((with_reducible refine qr1 ?_); (try dsimp only)) | (with_reducible refine qb0 ?_) | (with_reducible refine qu0 ?_) | ((with_reducible show wpAny _ _ (spliced (backTo _ (starEach (_ :: _) _))) _ _ _); k_dflt (refine qa0 ?_)) | ((with_reducible show wpAny _ _ (execs (_ :: _) _) _ _ _); first | (k_here; k_gentoks) | (with_reducible refine qs0 ?_)) | ((with_reducible show wpAny _ _ (eval (PySem.Expr.Call (PySem.Expr.Name _ _) _ [] _) _) _ _ _); (fail_if_success (with_reducible show wpAny _ _ (eval _ (compEnvC _ _ _ _)) _ _ _)); k_dflt (refine qc0 ?_)) | ((with_reducible show wpAny _ _ (exec (Stmt.Assign [PySem.Expr.Name _ _] _ _) _) _ _ _); (fail_if_success (with_reducible show wpAny _ _ (exec (Stmt.Assign _ (PySem.Expr.ListComp _ _ _ _) _) _) _ _ _)); k_dflt (refine qg0 ?_)) | ((with_reducible show wpAny _ _ (eval (PySem.Expr.Attribute (PySem.Expr.Name _ _) _ _) _) _ _ _); k_dflt (refine qt0 ?_)) | (with_reducible refine qr0 ?_) | ((with_reducible show wpAny _ _ (call (Value.ref _) _ _) _ _ _); first | (with_reducible (k_here; (first | (with_reducible show wpAny _ _ (call (Value.ref _) [Value.ref _] (List.zip _ _)) _ _ _) | (with_reducible show wpAny _ _ (call (Value.ref _) [Value.ref _] [(_, Value.bool true)]) _ _ _) | (with_reducible show wpAny _ _ (call (Value.ref _) ([] ++ [Value.ref _]) (List.zip _ _)) _ _ _)); (k_dflt (show wpAny _ _ (call (Value.ref _) [Value.ref _] [(Str.ofString "is_ntt", Value.bool true)]) _ _ _)); k_dflt (refine' mk_use ?zzk1 ?zzk2 ?zzk3 ?zzk4 ?zzk5 ?zzk6 ?zzm1 ?zzm2 ?zzm3 ?zzi1 ?zzn1 ?zzd1 ?_; (case zzk1 => k_asm); (case zzk2 => k_asm); (case zzk3 => k_asm); (case zzk4 => k_asm); (case zzk5 => k_asm); (case zzk6 => first | exact rfl | assumption); (case zzm1 => (first | walk_at "mm" | k_mem)); (case zzm2 => (first | walk_at "mm" | k_mem)); (case zzm3 => (first | walk_at "mm" | k_mem)); (case zzi1 => assumption); (case zzn1 => first | assumption | exact mulP_len _ _ _); (case zzd1 => ktr_room); k_whole); (intro x9 dx9 u9 v9 h9 tk9 g9 gg9 F9 N9 k9; clear k9); (try k_sweep))) | (with_reducible (k_here; (with_reducible show wpAny _ _ (call (Value.ref 552) _) _ _ _); k_dflt (refine' coef_con ?zzk1 ?zzk2 ?zzk3 ?zzk4 ?zzk5 ?zzk6 ?zzm1 ?zzm2 ?zzm3 ?zzm4 ?zzm5 ?zzm6 ?zzm7 ?zzi1 ?zzi2 ?zzi3 ?zzn1 ?zzn2 ?zzs1 ?zzs2 ?zzd1 ?_; (case zzk1 => k_asm); (case zzk2 => k_asm); (case zzk3 => k_asm); (case zzk4 => k_asm); (case zzk5 => k_asm); (case zzk6 => first | exact rfl | assumption); (case zzm1 => (first | walk_at "mm" | k_mem)); (case zzm2 => (first | walk_at "mm" | k_mem)); (case zzm3 => (first | walk_at "mm" | k_mem)); (case zzm4 => (first | walk_at "mm" | k_mem)); (case zzm5 => (first | walk_at "mm" | k_mem)); (case zzm6 => (first | walk_at "mm" | k_mem)); (case zzm7 => (first | walk_at "mm" | k_mem)); (case zzi1 => assumption); (case zzi2 => assumption); (case zzi3 => assumption); (case zzn1 => assumption); (case zzn2 => assumption); (case zzs1 => assumption); (case zzs2 => assumption); (case zzd1 => ktr_room); k_whole); (intro c9 its9 kk9 h9 tk9 i9 F9 N9 g9 k9; (have l9 := IntsAre.length i9); rw [mulP_len] at l9; clear k9); (try k_sweep)))) | ((with_reducible show wpAny _ _ (callWith _ (Value.ref _) _ _ _) _ _ _); (with_reducible (k_here; k_dflt (refine' callWith_ownKW ?zzk1 ?zzk2 ?zzk3 ?zzk4 ?zzk5 ?_; (case zzk1 => k_in); (case zzk2 => k_inst); (case zzk3 => rfl); (case zzk4 => k_is); (case zzk5 => exact rfl); k_whole)))) | ((with_reducible show wpAny _ _ (setItem (Value.ref _) (Value.int _ _) _) _ _ _); (with_reducible (k_here; (with_reducible show wpAny _ _ (setItem (Value.ref _) (Value.int _ _) _) _ _ _); k_dflt (refine' set_here ?zzk1 ?zzk2 ?zzk3 ?zzk4 ?zzk5 ?zzk6 ?zzk7 ?_; (case zzk1 => k_asm); (case zzk2 => k_asm); (case zzk3 => k_upd); (case zzk4 => decide); (case zzk5 => simp; done); (case zzk6 => decide); (case zzk7 => exact rfl); k_whole); intro h' F' N'; (simp only [List.setIfInBounds_toArray, Int.toNat_zero, Int.reduceToNat, List.set_cons_zero, List.set_cons_succ] at N'); (try k_sweep)))) | ((with_reducible show wpAny _ _ (getMethod (Value.ref _) _ _) _ _ _); (with_reducible (k_here; k_dflt (first | (refine' method_inst ?zzk1 ?zzk2 ?zzk3 ?zzk4 ?zzk5 ?zzk6 ?zzk7 ?_; (case zzk1 => k_asm); (case zzk2 => k_asm); (case zzk3 => k_inst); (case zzk4 => k_is); (case zzk5 => k_is); (case zzk6 => k_is); (case zzk7 => k_get); k_whole) | (refine' kmu_own ?zzk1 ?zzk2 ?zzk3 ?zzk4 ?zzk5 ?_; (case zzk1 => k_asm); (case zzk2 => k_asm); (case zzk3 => k_inst); (case zzk4 => k_is); (case zzk5 => k_is); k_whole) | (refine' kmu_sm ?zzk1 ?zzk2 ?zzk4 ?zzk5 ?zzk6 ?zzk7 ?zzk8 ?zzk9 ?zzk10 ?zzk11 ?zzk12 ?zzk13 ?zzk14 ?_; (case zzk1 => k_asm); (case zzk2 => k_asm); (case zzk4 => k_inst); (case zzk5 => k_is); (case zzk6 => k_is); (case zzk7 => k_is); (case zzk8 => k_is); (case zzk9 => k_is); (case zzk10 => k_is); (case zzk11 => decide +kernel); (case zzk12 => k_get); (case zzk13 => k_is); (case zzk14 => k_handed); k_whole))))) | (k_end; wrow_close) | walk1 | dsimp only | (leave1; try dsimp only) | fail "no step")
  all_goals (try dsimp only)
  all_goals (try (k_unfold; dsimp only))
  refine Done.intro (by k_asm) (by k_asm) ?_
  refine' ⟨?sb, _, _, _, _, _, _, _, rfl, ?g1, ?g2, ?g3, ?n1, ?n2, ?n3, ?i1, ?m1, ?m2, ?m3⟩
  case m1 => (first | walk_at "mm" | k_mem)
  case m2 => (first | walk_at "mm" | k_mem)
  case m3 => (first | walk_at "mm" | k_mem)
  case i1 => assumption
  case sb => exact fun p hp => .tail _ (.tail _ (.tail _ (.tail _ hp)))
  case n1 => k_ne
  case n2 => k_ne
  case n3 => k_ne
  case g1 => exact ⟨by k_ne, by k_ne, by k_ne, by k_ne, by k_ne, by k_ne, by k_ne, by k_ne, by k_ne, trivial⟩
  case g2 => exact ⟨by k_ne, by k_ne, by k_ne, by k_ne, by k_ne, by k_ne, by k_ne, by k_ne, by k_ne, trivial⟩
  case g3 => exact ⟨by k_ne, by k_ne, by k_ne, by k_ne, by k_ne, by k_ne, by k_ne, by k_ne, by k_ne, trivial⟩
end
set_option maxRecDepth 100000
set_option maxHeartbeats 4000000
section
variable {M : Model} {A : Around} {E : Value → Shared → Prop} {s : Shared} {K : Frag} {h₀ : Heap} {L c : Addr} {m mg mb : Str → Option Value} {p : Program} {loose : List Str} {mean : ExcName → Option Value} {x : Str} {pos : Pos} {v : Value} {Q : Value → Shared → Prop} {news : List (Addr × Obj)} {o : Obj} {env : Env}
theorem nameE_L (F : Fr h₀ L s.heap m) (hv : m x = some v) (h : Q v s) (hL : env.locals = L := by rfl) (hk : env.scope.kind = .function := by rfl) (hx : env.kindOf x = some .local := by rfl) (hd : (x == ("__debug__" : Str)) = false := by decide) :
    wpAny M A (eval (.Name x pos) env) Q E s := wpAny_Name (wpAny_loadName_local hk hx (hL ▸ F.ns) hv h) hd
theorem nameE_K (F : Fr h₀ L s.heap m) (X : K.In h₀) (T : Top p loose mean mg mb h₀) (e : nsIn K mainGlobals x = some (some v)) (h : Q v s) (hg : env.globals = mainGlobals := by rfl)
    (hk : env.scope.kind = .function := by rfl) (hx : env.kindOf x = some .globalImplicit := by rfl) (hd : (x == ("__debug__" : Str)) = false := by decide) :
    wpAny M A (eval (.Name x pos) env) Q E s :=
  Name_function_global hk hx (loadGlobal_global (env := env) (show s.heap.Ns env.globals mg from hg ▸ (T.keeps F.keep).g) (mg_of X T.g e) h) hd
theorem nameE_B (F : Fr h₀ L s.heap m) (X : K.In h₀) (T : Top p loose mean mg mb h₀) (e : nsIn K mainGlobals x = some none) (hv : bootBuiltins x = some v) (hn : x ≠ "__name__") (h : Q v s) (hg : env.globals = mainGlobals := by rfl) (hb : env.builtins = builtinsNs := by rfl)
    (hk : env.scope.kind = .function := by rfl) (hx : env.kindOf x = some .globalImplicit := by rfl) (hd : (x == ("__debug__" : Str)) = false := by decide) :
    wpAny M A (eval (.Name x pos) env) Q E s :=
  Name_function_global hk hx (loadGlobal_builtin (env := env) (show s.heap.Ns env.globals mg from hg ▸ (T.keeps F.keep).g) (mg_none_of X T.g e) (show s.heap.Ns env.builtins mb from hb ▸ (T.keeps F.keep).b) ((T.builtins x hn).trans hv) h) hd
theorem nameE_C (N : News h₀ L s.heap news) (hc : env.cells.lookup x = some c) (hm : (c, o) ∈ news) (hd : o.data = .cell (some v)) (h : Q v s)
    (hk : env.scope.kind = .function := by rfl) (hx : env.kindOf x = some .cell := by rfl) (hb : (x == ("__debug__" : Str)) = false := by decide) :
    wpAny M A (eval (.Name x pos) env) Q E s := wpAny_Name (wpAny_loadName_cell hk hx hc ⟨o, N.get hm, hd⟩ h) hb
theorem nameE_F (N : News h₀ L s.heap news) (hc : env.cells.lookup x = some c) (hm : (c, o) ∈ news) (hd : o.data = .cell (some v)) (h : Q v s)
    (hk : env.scope.kind = .function := by rfl) (hx : env.kindOf x = some .free := by rfl) (hb : (x == ("__debug__" : Str)) = false := by decide) (hn : (x == ("__classdict__" : Str)) = false := by decide) :
    wpAny M A (eval (.Name x pos) env) Q E s := wpAny_Name (wpAny_loadName_free hk hx hc ⟨o, N.get hm, hd⟩ h hn) hb
theorem looks_news {C x d : Addr} (N : News h₀ L s.heap news) (hm : (x, instObj C d) ∈ news) : Looks M s.heap (typeOf (.ref x)) (.ref C) := (Looks.ld (part := none) (N _ hm).1).andThen .now
end
set_option maxRecDepth 100000
set_option maxHeartbeats 4000000
section
variable {prog : Program} {w : World} {A : Around} {E : Value → Shared → Prop} {s : Shared}
/-- what a generator hands out, told of the value and the heap at the yield -/
def protoH (C : Addr) (fp wr : List Addr) (n₀ : Nat) (F : Nat → Value → Heap → Heap → Prop) : Protocol := fun m s₀ v s kap =>
  (∃ i, i + m + 1 = n₀ ∧ F i v s₀.heap s.heap) ∧ (∀ b o, s₀.heap.get? b = some o → ∃ o', s.heap.get? b = some o') ∧ GenSince C wr s₀ s ∧ ∀ s'' : Shared, (∀ b ∈ C :: fp, ∀ o, s.heap.get? b = some o → s''.heap.get? b = some o) → kap (.send .none) s''
abbrev endH (C : Addr) (wr : List Addr) : GenEnd := fun n s₀ r s₁ => r = .ok .next ∧ (n = 0 ∧ GenSince C wr s₀ s₁)

theorem seg_loopH {elt iter : PySem.Expr} {x : Str} {px : Pos} {scope : Scope} {pos : Pos} {I : Addr} {fp wr : List Addr} {n₀ : Nat} {P : Nat → Value → Prop} {St₀ : Nat → Heap → Prop} {cenv : Env}
    (hh : A.handled = none) (W₀ : ∀ A' : Around, A'.handled = none → Walks prog w A' I fp wr n₀ P St₀) (F : Nat → Value → Heap → Heap → Prop) (href : Heap)
    (hx : cenv.kindOf x = some .local) (hp : (cenv.scope.kind == .class || (cenv.scope.kind == .module && cenv.locals != cenv.globals)) = false)
    (hco : cenv.scope.isCoroutine = false) (hCf : cenv.locals ∉ fp)
    (hwr : ∀ i h, St₀ i h → ∀ b ∈ wr, ∃ o, h.get? b = some o)
    (helt : ∀ E' i v (hr : Heap) (s₂ : Shared) m₂, i < n₀ → P i v → St₀ (i + 1) s₂.heap → (∀ b o, hr.get? b = some o → ∃ o', s₂.heap.get? b = some o') → s₂.heap.Ns cenv.locals m₂ → m₂ x = some v → (∀ b ∈ fp, b ∉ wr → ∀ o, href.get? b = some o → s₂.heap.get? b = some o) →
      wpAny (model prog w) (A.over (.compLoop (.GeneratorExp elt [⟨.Name x px, iter, [], 0⟩] scope pos) 0 (.ref I) .none cenv) []) (eval elt cenv) (fun y s₃ => F i y hr s₃.heap ∧ Keeps s₂ s₃) E' s₂) :
    ∀ (k i : Nat) (s₀ s : Shared) (m : Str → Option Value), n₀ - i = k → i ≤ n₀ → St₀ i s.heap → s.heap.Ns cenv.locals m → GenSince cenv.locals wr s₀ s →
      (∀ b ∈ fp, b ∉ wr → ∀ o, href.get? b = some o → s.heap.get? b = some o) →
      Seg (model prog w) A (endH cenv.locals wr) (protoH cenv.locals fp wr n₀ F) k s₀
        (.compLoop (.GeneratorExp elt [⟨.Name x px, iter, [], 0⟩] scope pos) 0 (.ref I) .none cenv)
        ((model prog w).den (.compLoop (.GeneratorExp elt [⟨.Name x px, iter, [], 0⟩] scope pos) 0 (.ref I) .none cenv)) [] s := by
  have hh' : (A.over (.compLoop (.GeneratorExp elt [⟨.Name x px, iter, [], 0⟩] scope pos) 0 (.ref I) .none cenv) []).handled = none := hh
  have hCw : cenv.locals ∉ wr := fun h => hCf ((W₀ A hh).sub _ h)
  intro k
  induction k with
  | zero =>
    intro i s₀ s m hk hi hst hn hsince hkp
    obtain rfl : i = n₀ := by omega
    show Seg _ A _ _ _ s₀ _ ((compTurn (.GeneratorExp elt [⟨.Name x px, iter, [], 0⟩] scope pos) 0 (.ref I) .none cenv).onRaise (leaving cenv)) [] s
    rw [compTurn_gen, Sem.onRaise_eq_wrap]
    refine seg_bind_wrap (wpAny_standAt ?_)
    refine seg_bind_wrap ((W₀ _ hh').done s _ _ hst fun h' tk hk' => ?_)
    exact seg_end (.ok .next) ⟨rfl, rfl, hsince.step fun b o _ hw e => hk' b o hw e⟩
  | succ k ih =>
    intro i s₀ s m hk hi hst hn hsince hkp
    have hlt : i < n₀ := by omega
    show Seg _ A _ _ _ s₀ _ ((compTurn (.GeneratorExp elt [⟨.Name x px, iter, [], 0⟩] scope pos) 0 (.ref I) .none cenv).onRaise (leaving cenv)) [] s
    rw [compTurn_gen, Sem.onRaise_eq_wrap]
    refine seg_bind_wrap (wpAny_standAt ?_)
    refine seg_bind_wrap ((W₀ _ hh').item i s _ _ hlt hst fun v h₁ tk₁ hPv hst₁ hk₁ => ?_)
    refine seg_bind_wrap (wpAny_of_eq (rfl : letOwnedTupleGo (.Name x px) (.ref I) v = pure ()) ?_)
    refine seg_bind_wrap (wpAny_assign_Name (wpAny_storeName_local hx (hn.at' fun o e => hk₁ _ o hCw e) (fun h₂ hn₂ hs₂ => ?_) hp))
    have up₂ : ∀ b o, b ≠ cenv.locals → b ∉ wr → s.heap.get? b = some o → h₂.get? b = some o := fun b o hbC hbw e => hs₂.extBut b o hbC (hk₁ b o hbw e)
    have hst₂ : St₀ (i + 1) h₂ := (W₀ A hh).frame _ _ _ hst₁ fun b hb o e => hs₂.extBut b o (fun h => hCf (h ▸ hb)) e
    have hkp₂ : ∀ b ∈ fp, b ∉ wr → ∀ o, href.get? b = some o → h₂.get? b = some o := fun b hb hbw o e => up₂ b o (fun h => hCf (h ▸ hb)) hbw (hkp b hb hbw o e)
    refine seg_bind_wrap (wpAny_tests_nil ?_)
    simp only [if_true]
    have hy : ∀ v, yieldOut cenv v = yieldValue v := fun v => by simp only [yieldOut, hco, Bool.false_eq_true, if_false]
    simp only [hy]
    rw [Sem.bind_eq_wrap', Sem.bind_eq_wrap', Sem.wrap_wrap, Sem.wrap_wrap]
    have hex : ∀ b o, s₀.heap.get? b = some o → ∃ o', h₂.get? b = some o' := by
      obtain ⟨hs, tks, es, ks⟩ := hsince
      intro b o e
      by_cases q1 : b = cenv.locals
      · subst q1; obtain ⟨oC, _, _, eC, _⟩ := hn₂; exact ⟨oC, eC⟩
      by_cases q2 : b ∈ wr
      · exact hwr _ _ hst₂ b q2
      · refine ⟨o, up₂ b o q1 q2 ?_⟩
        rw [es]; exact ks b o q1 q2 e
    refine seg_wrap (wpAny_mono (helt _ i v s₀.heap _ _ hlt hPv hst₂ hex hn₂ (by simp) hkp₂) (fun y s₄ h₄ => ?_) fun _ _ e => e)
    obtain ⟨hFy, h₄, tk₄, rfl, hk₄⟩ := h₄
    have hsince₂ : GenSince cenv.locals wr s₀ { s with heap := h₄, toks := tk₄ } := hsince.step fun b o hbC hbw e => hk₄ b o (up₂ b o hbC hbw e)
    refine seg_at (seg_yield rfl rfl rfl ⟨⟨i, by omega, hFy⟩, fun b o e => (let ⟨o', e'⟩ := hex b o e; ⟨o', hk₄ _ _ e'⟩), hsince₂, fun s'' hal => ?_⟩)
    exact seg_again rfl (ih (i + 1) s'' s'' _ (by omega) hlt ((W₀ A hh).frame _ _ _ hst₂ fun b hb o e => hal b (List.mem_cons_of_mem _ hb) o (hk₄ b o e))
      ((hn₂.keeps hk₄).at' fun o e => hal _ (List.mem_cons_self ..) o e) (GenSince.refl _ _ _) fun b hb hbw o e => hal b (List.mem_cons_of_mem _ hb) o (hk₄ b o (hkp₂ b hb hbw o e)))

theorem seg_startH {elt iter : PySem.Expr} {x : Str} {px : Pos} {scope : Scope} {pos : Pos} {I : Addr} {fp wr : List Addr} {n₀ : Nat} {P : Nat → Value → Prop} {St₀ : Nat → Heap → Prop} {cenv : Env}
    (hh : A.handled = none) (W₀ : ∀ A' : Around, A'.handled = none → Walks prog w A' I fp wr n₀ P St₀) (F : Nat → Value → Heap → Heap → Prop) (href : Heap)
    (hx : cenv.kindOf x = some .local) (hp : (cenv.scope.kind == .class || (cenv.scope.kind == .module && cenv.locals != cenv.globals)) = false)
    (hco : cenv.scope.isCoroutine = false) (hCf : cenv.locals ∉ fp)
    (hwr : ∀ i h, St₀ i h → ∀ b ∈ wr, ∃ o, h.get? b = some o)
    (helt : ∀ E' i v (hr : Heap) (s₂ : Shared) m₂, i < n₀ → P i v → St₀ (i + 1) s₂.heap → (∀ b o, hr.get? b = some o → ∃ o', s₂.heap.get? b = some o') → s₂.heap.Ns cenv.locals m₂ → m₂ x = some v → (∀ b ∈ fp, b ∉ wr → ∀ o, href.get? b = some o → s₂.heap.get? b = some o) →
      wpAny (model prog w) (A.over (.compLoop (.GeneratorExp elt [⟨.Name x px, iter, [], 0⟩] scope pos) 0 (.ref I) .none cenv) []) (eval elt cenv) (fun y s₃ => F i y hr s₃.heap ∧ Keeps s₂ s₃) E' s₂)
    (s₀ s : Shared) (m : Str → Option Value) (hst : St₀ 0 s.heap) (hn : s.heap.Ns cenv.locals m) (hsince : GenSince cenv.locals wr s₀ s)
    (hkp : ∀ b ∈ fp, b ∉ wr → ∀ o, href.get? b = some o → s.heap.get? b = some o) :
    Seg (model prog w) A (endH cenv.locals wr) (protoH cenv.locals fp wr n₀ F) n₀ s₀
      (.compStart (.GeneratorExp elt [⟨.Name x px, iter, [], 0⟩] scope pos) 0 (.ref I) .none cenv)
      ((model prog w).den (.compStart (.GeneratorExp elt [⟨.Name x px, iter, [], 0⟩] scope pos) 0 (.ref I) .none cenv)) [] s := by
  have hh' : (A.over (.compStart (.GeneratorExp elt [⟨.Name x px, iter, [], 0⟩] scope pos) 0 (.ref I) .none cenv) []).handled = none := hh
  have loop := seg_loopH (iter := iter) (px := px) (scope := scope) (pos := pos) hh W₀ F href hx hp hco hCf hwr helt n₀ 0 s₀ s m (Nat.sub_zero _) (Nat.zero_le _) hst hn hsince hkp
  show Seg _ A _ _ _ s₀ _ ((compStart (.GeneratorExp elt [⟨.Name x px, iter, [], 0⟩] scope pos) 0 (.ref I) .none cenv).onRaise (leaving cenv)) [] s
  unfold compStart
  rw [Sem.onRaise_eq_wrap]
  show Seg _ A _ _ _ s₀ _ ((ask >>= _).wrap _ _ _ _) [] s
  refine seg_bind_wrap (wpAny_askSetting ?_)
  split
  · exact seg_again rfl loop
  · refine seg_bind_wrap (wpAny_rule ?_)
    show Seg _ A _ _ _ s₀ _ ((standAt iter.pos >>= _).wrap _ _ _ _) [] s
    exact seg_bind_wrap (wpAny_standAt (seg_bind_wrap ((W₀ _ hh').self 0 s _ _ hst (seg_again rfl loop))))

/-- a generator that has handed out j values -/
def GenAtH (prog : Program) (w : World) (A : Around) (a : Addr) (g : Nat) (C : Addr) (fp wr : List Addr) (n₀ : Nat) (F : Nat → Value → Heap → Heap → Prop) (j : Nat) (s : Shared) : Prop :=
  s.heap.IsGen a g ∧ s.heap.NoLimit ∧ ∃ gs, s.gens[g]? = some gs ∧ ∀ s'' : Shared, (∀ b ∈ C :: fp, ∀ o, s.heap.get? b = some o → s''.heap.get? b = some o) →
    gs.Goes (model prog w) A.in1 (endH C wr) (protoH C fp wr n₀ F) (n₀ - j) (.send .none) s''
theorem GenAtH.keeps {a : Addr} {g : Nat} {C : Addr} {fp wr : List Addr} {n₀ j : Nat} {F : Nat → Value → Heap → Heap → Prop} {h' : Heap} {tk : Nat} (st : GenAtH prog w A a g C fp wr n₀ F j s)
    (hcs : cStatics ∈ fp) (hk : ∀ b ∈ a :: C :: fp, ∀ o, s.heap.get? b = some o → h'.get? b = some o) : GenAtH prog w A a g C fp wr n₀ F j { s with heap := h', toks := tk } :=
  ⟨let ⟨o, nm, qn, ho, r⟩ := st.1; ⟨o, nm, qn, hk a (List.mem_cons_self ..) o ho, r⟩,
   (let ⟨mc, hns, hnn⟩ := st.2.1; ⟨mc, hns.at' fun o e => hk cStatics (List.mem_cons_of_mem _ (List.mem_cons_of_mem _ hcs)) o e, hnn⟩),
   let ⟨gs, hgs, hgo⟩ := st.2.2; ⟨gs, hgs, fun s'' hal => hgo s'' fun b hb o e => hal b hb o (hk b (List.mem_cons_of_mem _ hb) o e)⟩⟩

theorem nextH_item {a : Addr} {g : Nat} {C : Addr} {fp wr : List Addr} {n₀ j : Nat} {F : Nat → Value → Heap → Heap → Prop} {Q : Option Value → Shared → Prop} (hh : A.handled = none) (haC : a ≠ C) (haf : a ∉ fp) (hsub : ∀ b ∈ wr, b ∈ fp)
    (hroom : A.depth < recursionLimit) (hcC : cStatics ≠ C) (hcw : cStatics ∉ wr) (hj : j < n₀) (st : GenAtH prog w A a g C fp wr n₀ F j s)
    (hQ : ∀ v h' tk gs, F j v s.heap h' → (∀ b o, s.heap.get? b = some o → ∃ o', h'.get? b = some o') → GenAtH prog w A a g C fp wr n₀ F (j + 1) { s with heap := h', toks := tk, gens := gs } → (∀ b o, b ∉ C :: wr → s.heap.get? b = some o → h'.get? b = some o) →
      GenOnlyQ g s.gens gs → Q (some v) { s with heap := h', toks := tk, gens := gs }) : wpAny (model prog w) A (pyNext (.ref a)) Q E s := by
  obtain ⟨hg, hl, gs, hgs, hgo⟩ := st
  obtain ⟨m, hm⟩ : ∃ m, n₀ - j = m + 1 := ⟨n₀ - j - 1, by omega⟩
  rw [hm] at hgo
  refine wpAny_pyNext_genexpQ (P := fun n s₀ s₁ => n = 0 ∧ GenSince C wr s₀ s₁) hh hl hroom hg hgs (hgo _ fun _ _ _ e => e) (fun v s₁ gs' hb hv => ?_) (fun s₁ hp h' hk => ?_)
  · obtain ⟨⟨i, hi, hF⟩, hex, ⟨h₁, tk₁, rfl, hk₁⟩, hkap⟩ := hv
    obtain rfl : i = j := by omega
    have haw : a ∉ wr := fun h => haf (hsub a h)
    refine hQ v h₁ tk₁ _ hF hex ⟨let ⟨o, nm, qn, ho, r⟩ := hg; ⟨o, nm, qn, hk₁ a o haC haw ho, r⟩, (let ⟨mc, hns, hnn⟩ := hl; ⟨mc, hns.at' fun o e => hk₁ cStatics o hcC hcw e, hnn⟩), gs', setGen_self (gs := .running) (setGen_self hgs), fun s'' hal => ?_⟩
      (fun b o hb e => hk₁ b o (fun h => hb (h ▸ List.mem_cons_self ..)) (fun h => hb (List.mem_cons_of_mem _ h)) e)
      (GenOnlyQ.of ((GenOnly.setGen s g .running).trans (GenOnly.setGen _ g gs')) (setGen_self (gs := .running) (setGen_self hgs)) hb)
    have e : n₀ - (i + 1) = m := by omega
    rw [e]
    exact hkap s'' hal
  · exact absurd hp.1 (Nat.succ_ne_zero m)

theorem nextH_done {a : Addr} {g : Nat} {C : Addr} {fp wr : List Addr} {n₀ : Nat} {F : Nat → Value → Heap → Heap → Prop} {Q : Option Value → Shared → Prop} (hh : A.handled = none)
    (hroom : A.depth < recursionLimit) (st : GenAtH prog w A a g C fp wr n₀ F n₀ s)
    (hQ : ∀ h' tk gs, (∀ b o, b ∉ C :: wr → s.heap.get? b = some o → h'.get? b = some o) → GenOnlyQ g s.gens gs → Q none { s with heap := h', toks := tk, gens := gs }) : wpAny (model prog w) A (pyNext (.ref a)) Q E s := by
  obtain ⟨hg, hl, gs, hgs, hgo⟩ := st
  rw [Nat.sub_self] at hgo
  refine wpAny_pyNext_genexpQ (P := fun n s₀ s₁ => n = 0 ∧ GenSince C wr s₀ s₁) hh hl hroom hg hgs (hgo _ fun _ _ _ e => e) (fun v s₁ gs' hb hv => ?_) (fun s₁ hp h' hk => ?_)
  · obtain ⟨_, _, _, hkap⟩ := hv
    exact False.elim (hkap s₁ fun _ _ _ e => e)
  · obtain ⟨_, h₁, tk₁, rfl, hk₁⟩ := hp
    exact hQ h' tk₁ _ (fun b o hb e => hk b o (hk₁ b o (fun h => hb (h ▸ List.mem_cons_self ..)) (fun h => hb (List.mem_cons_of_mem _ h)) e))
      (GenOnlyQ.of ((GenOnly.setGen s g .running).trans (GenOnly.setGen _ g .finished)) (setGen_self (gs := .running) (setGen_self hgs)) rfl)
end
set_option maxRecDepth 100000
set_option maxHeartbeats 4000000
section
variable {M : Model} {A : Around} {E : Value → Shared → Prop} {s : Shared}
/-- the code object of a generator expression: its table kept in the ledger's shape -/
theorem gcode {env : Env} {c P : Addr} {ps : Array Value} {pos : Pos} {qualname : Str} {scope : Scope} {Q : Value → Shared → Prop} (hc : env.code = .ref c) (C : CodeHd s.heap c P) (hP : s.heap.get? P = some (tabObj ps)) (ht : TriplesOk ps.toList)
    (hQ : ∀ code h' tk ps', TriplesOk ps'.toList → (∀ b o, b ≠ P → s.heap.get? b = some o → h'.get? b = some o) → h'.get? P = some (tabObj ps') → Q code { s with heap := h', toks := tk }) :
    wpAny M A (genexprCode env pos qualname scope) Q E s := by
  have hok := C.code hP ht
  obtain ⟨o, vs, file, tf, flags, tg, inF, text, tt, op, ho, hd, h11, h2, h7, h9, h10, hop, hpd, htr, hne⟩ := id hok
  rw [hP] at hop; cases hop
  unfold genexprCode codeAt
  rw [hc, if_neg (show ¬ ((Value.ref c == Value.none) = true) from Bool.false_ne_true)]
  refine wpAny_bind (wpAny_fieldsOf ho hd ?_)
  rw [h11]
  refine wpAny_bind (wpAny_fieldsOf hP hpd ?_)
  cases hnf : codeAmong pos ps.toList with
  | some cv => exact wpAny_pure (hQ cv s.heap s.toks ps ht (fun b o _ e => e) hP)
  | none =>
    rw [h2, h7, h9, h10]
    refine wpAny_bind (wpAny_newCode fun c' P' h' tk hk hc' hP' hcode' hrec' => ?_)
    have hop' := hk _ _ hP
    refine wpAny_bind (wpAny_updateFieldsOfTheText hop' hpd ?_)
    have hnew : Obj.mapFields (fun vs => if (codeAmong pos vs.toList).isSome = true then vs else vs ++ #[rawInt pos.line, rawInt pos.col, .ref c']) (tabObj ps) =
        tabObj (ps ++ #[rawInt pos.line, rawInt pos.col, .ref c']) := by
      show ({ cls := .none, data := .fields (if (codeAmong pos ps.toList).isSome = true then ps else ps ++ #[rawInt pos.line, rawInt pos.col, .ref c']) } : Obj) = _
      rw [hnf]; rfl
    have hget := Heap.get?_update_self (h := h') (fun o => Obj.mapFields (fun vs => if (codeAmong pos vs.toList).isSome = true then vs else
      vs ++ #[rawInt pos.line, rawInt pos.col, .ref c']) o) hop' (by rw [hnew]; rfl)
    rw [hnew] at hget
    refine wpAny_bind (wpAny_fieldsOf hget rfl ?_)
    have hl : (ps ++ #[rawInt pos.line, rawInt pos.col, Value.ref c']).toList = ps.toList ++ [rawInt pos.line, rawInt pos.col, .ref c'] := by simp
    rw [hl, codeAmong_snoc _ htr hnf]
    refine wpAny_pure (hQ _ _ _ (ps ++ #[rawInt pos.line, rawInt pos.col, .ref c']) (by rw [hl]; exact TriplesOk_snoc _ _ _ _ htr) (fun b o' hb e => ((Heap.SameBut.update ..).extBut b o' hb (hk b o' e))) hget)
end

theorem updF_news {h₀ h h' : Heap} {L P : Addr} {o o' : Obj} {news : List (Addr × Obj)} {g : Obj → List (Addr × Obj)} (U : UpdF P o news g) (N : News h₀ L h news) (k : ∀ b q, b ≠ P → h.get? b = some q → h'.get? b = some q) (e : h'.get? P = some o') : News h₀ L h' (g o') := by
  obtain ⟨pre, post, rfl, hg, a, b⟩ := U.split
  rw [hg]
  intro q hq
  rcases List.mem_append.mp hq with hq | hq
  · have z := N q (List.mem_append_left _ hq)
    exact ⟨k _ _ (a q hq) z.1, z.2⟩
  · rcases List.mem_cons.mp hq with rfl | hq
    · exact ⟨e, (N (P, o) (List.mem_append_right _ (.head _))).2⟩
    · have z := N q (List.mem_append_right _ (.tail _ hq))
      exact ⟨k _ _ (b q hq) z.1, z.2⟩
section
variable {prog : Program} {w : World} {A A₀ : Around} {E : Value → Shared → Prop} {s : Shared} {base h₀ : Heap} {outer : List Env} {L : Addr} {m : Str → Option Value} {K : Frag} {p : Program} {loose : List Str} {mean : ExcName → Option Value} {mg mb : Str → Option Value} {news : List (Addr × Obj)} {envF env : Env} {c P : Addr} {ps : Array Value} {g : Obj → List (Addr × Obj)}
theorem gen_range {elt iter : PySem.Expr} {x : Str} {px pos : Pos} {scope : Scope} {cl : List (Str × Addr)} {Q : Value → Shared → Prop} {r : Addr} {n : Nat} {t u v : Tok}
    (FV : Nat → Value → Heap → Heap → Prop) (B : Below A₀ base outer h₀) (F : Fr h₀ L s.heap m) (X₀ : K.In h₀) (N : News h₀ L s.heap news) (T : Top p loose mean mg mb h₀) (hA : A.frames = some (envF :: outer)) (hf : envF.frame = some L) (hke : envF.scope.kind = .function)
    (hh : A.handled = none) (hge : env.globals = mainGlobals) (hcode : env.code = .ref c) (Cd : CodeHd h₀ c P) (U : UpdF P (tabObj ps) news g) (ht : TriplesOk ps.toList)
    (hco : scope.isCoroutine = false) (hx : scope.names.lookup x = some .local) (hkind : scope.kind = .function)
    (hr : IsRange s.heap r 0 n 1 t u v) (hsm : Builtin.Range.small 0 n 1 = true) (hsz : Builtin.Range.rangeSize 0 n 1 = n)
    (helt : ∀ G C' I code ps' E' i ti (hr : Heap) (s₂ : Shared) m₂, i < n → m₂ x = some (.int i ti) → Fr G C' s₂.heap m₂ → News G C' s₂.heap (g (tabObj ps')) → Below A base (envF :: outer) G → K.In G → Top p loose mean mg mb G → (∀ p ∈ g (tabObj ps'), p.1 < C') →
      (∀ b o, hr.get? b = some o → ∃ o', s₂.heap.get? b = some o') →
      wpAny (model prog w) (A.in1.in1.over (.compLoop (.GeneratorExp elt [⟨.Name x px, iter, [], 0⟩] scope pos) 0 (.ref I) .none (genEnv scope cl C' code builtinsNs env)) []) (eval elt (genEnv scope cl C' code builtinsNs env)) (fun y s₃ => FV i y hr s₃.heap ∧ Keeps s₂ s₃) E' s₂)
    (h : ∀ a gi C' I h' tk gens' ps', TriplesOk ps'.toList → Fr h₀ L h' m → News h₀ L h' (g (tabObj ps')) → GenAtH prog w A.in1 a gi C' (List.range C') [I] n FV 0 { s with heap := h', toks := tk, gens := gens' } → a ≠ C' → a ∉ List.range C' → (∀ b ∈ a :: C' :: List.range C', b < h'.objs.size) →
      cStatics ∈ List.range C' → cStatics ≠ C' → cStatics ∉ [I] → I ∈ List.range C' → (AllBare s.gens → AllBare gens') → (∀ z, GenOnlyQ gi gens' z → AllBare s.gens → AllBare z) → s.heap.get? C' = none → s.heap.get? I = none → (∃ o, h'.get? C' = some o) → (∃ o, h'.get? I = some o) → (∀ b o, b ≠ P → s.heap.get? b = some o → h'.get? b = some o) →
      Q (.ref a) { s with heap := h', toks := tk, gens := gens' }) :
    wpAny (model prog w) A (pyIter (.ref r)) (fun it s₂ => s₂.heap.NoLimit ∧
      wpAny (model prog w) A (genexprCode env pos (env.qual ++ "<genexpr>") scope) (fun code s₃ => wpAny (model prog w) A (builtinsFor env.globals env.builtins) (fun bi s₄ =>
        ∀ h', h'.Ns s₄.heap.objs.size (fun y => if y = ".0" then some it else none) → Heap.SameBut s₄.heap.objs.size (s₄.heap.push { cls := .type "frame", data := .dict #[] }) h' →
          Q (.ref h'.objs.size) { s₄ with
            gens := s₄.gens.push (.fresh (.compStart (.GeneratorExp elt [⟨.Name x px, iter, [], 0⟩] scope pos) 0 it .none (genEnv scope cl s₄.heap.objs.size code bi env))),
            toks := s₄.toks + 1 + 1 + 1,
            heap := h'.push { cls := .type "generator", data := .fields #[.int s₄.gens.size 0, .str "<genexpr>" (s₄.toks + 1), .str (env.qual ++ "<genexpr>") (s₄.toks + 1 + 1)] } }) E s₃) E s₂) E s := by
  refine wpAny_pyIter_range hr hsm ?_
  have up₁ : ∀ b o, s.heap.get? b = some o → (s.heap.push { cls := .type "range_iterator", data := .fields #[rawInt 0, rawInt (Builtin.Range.rangeSize 0 n 1), rawInt 1] }).get? b = some o := fun b o e => Heap.get?_push_of_some _ e
  have nolim : ∀ h' : Heap, (∀ b o, h₀.get? b = some o → h'.get? b = some o) → h'.NoLimit := fun h' k => T.nolimit.keeps k
  refine ⟨nolim _ fun b o e => up₁ b o (F.keep b o e), ?_⟩
  have hnI : s.heap.get? s.heap.objs.size = none := by
    cases e : s.heap.get? s.heap.objs.size with
    | none => rfl
    | some o' => exact absurd (Heap.lt_size e) (Nat.lt_irrefl _)
  have hPm : (P, tabObj ps) ∈ news := by
    obtain ⟨pre, post, e1, _⟩ := U.split
    rw [e1]; exact List.mem_append_right _ (.head _)
  have hPlt : P < s.heap.objs.size := Heap.lt_size (N _ hPm).1
  have hIt : (s.heap.push { cls := .type "range_iterator", data := .fields #[rawInt 0, rawInt (Builtin.Range.rangeSize 0 n 1), rawInt 1] }).get? s.heap.objs.size = some { cls := .type "range_iterator", data := .fields #[rawInt 0, rawInt (Builtin.Range.rangeSize 0 n 1), rawInt 1] } := Heap.get?_push_size _ rfl
  refine gcode hcode (Cd.keeps fun b o e => up₁ b o (F.keep b o e)) (up₁ _ _ (N _ hPm).1) ht fun code h₄ tk₄ ps' ht' hk₄ hP₄ => ?_
  dsimp only at hk₄ hP₄ ⊢
  have F₄ : Fr h₀ L h₄ m := by
    obtain ⟨o, es, ep, ho, rr⟩ := F.ns
    refine ⟨⟨o, es, ep, hk₄ _ _ (fun q => (N _ hPm).2.1 q.symm) (up₁ _ _ ho), rr⟩, fun b o e => hk₄ _ _ (fun q => ?_) (up₁ _ _ (F.keep b o e)), F.above⟩
    have z := (N _ hPm).2.2
    rw [q] at e; rw [e] at z; cases z
  have N₄ : News h₀ L h₄ (g (tabObj ps')) := updF_news U N (fun b q hb e => hk₄ b q hb (up₁ b q e)) hP₄
  have hI₄ := hk₄ _ _ (Nat.ne_of_gt hPlt) hIt
  obtain ⟨bm, ob, b1, b2, b3, b4, b5, b6⟩ := T.bmain
  refine wpAny_builtinsFor (m := mg) (by rw [hge]; exact (T.keeps F₄.keep).g) b1 b2 (F₄.keep _ _ b3) b4 b5 b6 ?_
  intro h₅ hn₅ hs₅
  dsimp only at hn₅ hs₅ ⊢
  have e0 : s.heap.objs.size < h₄.objs.size := Heap.lt_size hI₄
  have hz₅ : h₅.objs.size = h₄.objs.size + 1 := by rw [hs₅.1, Heap.size_push]
  have keep₅ : ∀ b o, h₄.get? b = some o → h₅.get? b = some o := fun b o e => hs₅.extBut b o (Nat.ne_of_lt (Heap.lt_size e)) (Heap.get?_push_of_some _ e)
  have keep₆ : ∀ b o, h₄.get? b = some o → (h₅.push { cls := .type "generator", data := .fields #[.int s.gens.size 0, .str "<genexpr>" (tk₄ + 1), .str (env.qual ++ "<genexpr>") (tk₄ + 1 + 1)] }).get? b = some o := fun b o e => Heap.get?_push_of_some _ (keep₅ b o e)
  have hnC : s.heap.get? h₄.objs.size = none := by
    cases e : s.heap.get? h₄.objs.size with
    | none => rfl
    | some o' => exact absurd (Nat.lt_trans (Heap.lt_size e) e0) (Nat.lt_irrefl _)
  have hclt : cStatics < h₄.objs.size := by obtain ⟨mc, hn, _⟩ := T.nolimit; exact (hn.keeps F₄.keep).lt
  have hIne : cStatics ∉ [s.heap.objs.size] := fun q => by
    obtain ⟨mc, hn, _⟩ := T.nolimit
    have := (hn.keeps F.keep).lt
    rw [List.mem_singleton.mp q] at this
    exact Nat.lt_irrefl _ this
  have hI0 : h₀.get? s.heap.objs.size = none := next_is_new F
  have N₅ : News h₀ L h₄ ((s.heap.objs.size, { cls := .type "range_iterator", data := .fields #[rawInt 0, rawInt (Builtin.Range.rangeSize 0 n 1), rawInt 1] }) :: g (tabObj ps')) := fun q hq => by
    rcases List.mem_cons.mp hq with rfl | hq
    · exact ⟨hI₄, Nat.ne_of_gt F.ns.lt, hI0⟩
    · exact N₄ q hq
  have goff : ∀ q ∈ g (tabObj ps'), q.1 ≠ s.heap.objs.size := by
    obtain ⟨pre, post, e1, e2, _, _⟩ := U.split
    rw [e2]
    intro q hq
    have : ∃ q' ∈ news, q'.1 = q.1 := by
      rw [e1]
      rcases List.mem_append.mp hq with hq | hq
      · exact ⟨q, List.mem_append_left _ hq, rfl⟩
      · rcases List.mem_cons.mp hq with rfl | hq
        · exact ⟨(P, tabObj ps), List.mem_append_right _ (.head _), rfl⟩
        · exact ⟨q, List.mem_append_right _ (.tail _ hq), rfl⟩
    obtain ⟨q', hq', eq⟩ := this
    rw [← eq]
    exact Nat.ne_of_lt (Heap.lt_size (N q' hq').1)
  obtain ⟨_, BG, st, _⟩ := groundX (s := { s with heap := h₄, toks := tk₄ }) (R := fun _ _ => True) B F₄ N₅ hA hf hke
  have hst : IsRangeIter h₄ s.heap.objs.size (0 + ((0 : Nat) : Int) * 1) ((n : Int) - ((0 : Nat) : Int)) 1 := by
    have e := hI₄
    rw [hsz] at e
    simpa [IsRangeIter] using e
  refine h h₅.objs.size s.gens.size h₄.objs.size s.heap.objs.size _ _ _ ps' ht' ⟨F₄.ns.keeps keep₆, fun b o e => keep₆ b o (F₄.keep b o e), F₄.above⟩ (fun q hq => ⟨keep₆ _ _ (N₄ q hq).1, (N₄ q hq).2⟩)
    ⟨⟨_, _, _, Heap.get?_push_size _ rfl, rfl, rfl, rfl⟩, nolim _ fun b o e => keep₆ b o (F₄.keep b o e), _, Array.getElem?_push_size .., fun s'' hal => ⟨rfl, ?_⟩⟩ (by rw [hz₅]; exact Nat.succ_ne_self _) (fun q => by have := List.mem_range.mp q; omega) (fun b hb => ?_)
    (List.mem_range.mpr hclt) (Nat.ne_of_lt hclt) hIne (List.mem_range.mpr e0) (fun k => k.push rfl) (fun z hz k => hz.bare (k.push rfl)) hnC hnI (let ⟨o, _, _, e, _⟩ := hn₅; ⟨o, Heap.get?_push_of_some _ e⟩) ⟨_, keep₆ _ _ hI₄⟩ (fun b o hb e => keep₆ b o (hk₄ b o hb (up₁ b o e)))
  · refine seg_startH (A := A.in1.in1) (cenv := genEnv scope cl h₄.objs.size code builtinsNs env) hh (fun A' hA' => (Walks.range hA' s.heap.objs.size 0 1 n).mono_fp fun b hb => by rw [List.mem_singleton.mp hb]; exact List.mem_range.mpr e0) FV (h₅.push { cls := .type "generator", data := .fields #[.int s.gens.size 0, .str "<genexpr>" (tk₄ + 1), .str (env.qual ++ "<genexpr>") (tk₄ + 1 + 1)] })
      hx (by simp [genEnv, hkind]) hco (fun q => Nat.lt_irrefl _ (List.mem_range.mp q)) (fun i h hI b hb => by rw [List.mem_singleton.mp hb]; exact ⟨_, hI⟩) ?_ s'' s'' _ (hal _ (List.mem_cons_of_mem _ (List.mem_range.mpr e0)) _ (keep₆ _ _ hst))
      (hn₅.push _ |>.at' fun o e => hal _ (List.mem_cons_self ..) o e) (GenSince.refl _ _ _) (fun b hb _ o e => hal b (List.mem_cons_of_mem _ hb) o e)
    intro E' i v' hr' s₂ m₂ hi hP hst₂ hex hn₂ hx₂ hk₂
    obtain ⟨ti, rfl⟩ := hP
    have kG : ∀ b o, b ≠ s.heap.objs.size → h₄.get? b = some o → s₂.heap.get? b = some o := fun b o hb e => hk₂ b (List.mem_range.mpr (Heap.lt_size e)) (fun q => hb (List.mem_singleton.mp q)) o (keep₆ b o e)
    refine helt _ h₄.objs.size s.heap.objs.size code ps' E' i ti hr' s₂ m₂ hi (by rw [hx₂]; simp) ⟨hn₂, fun b o e => kG b o (fun q => ?_) (of_hideAll _ e), Nat.le_of_eq (hideAll_size _ _)⟩
      (fun q hq => ⟨kG _ _ (goff q hq) (N₄ q hq).1, Nat.ne_of_lt (Heap.lt_size (N₄ q hq).1), hideAll_none _ (List.mem_map_of_mem (List.mem_cons_of_mem _ hq))⟩) BG (X₀.keeps st) (T.keeps st) (fun q hq => Heap.lt_size (N₄ q hq).1) hex
    subst q
    have hz := hideAll_none (h := h₄) (b := s.heap.objs.size) (((s.heap.objs.size, ({ cls := .type "range_iterator", data := .fields #[rawInt 0, rawInt (Builtin.Range.rangeSize 0 n 1), rawInt 1] } : Obj)) :: g (tabObj ps')).map (·.1)) (List.mem_cons_self ..)
    have e2 := hz.symm.trans e
    cases e2
  · rcases List.mem_cons.mp hb with rfl | hb
    · rw [Heap.size_push]; exact Nat.lt_succ_self _
    rcases List.mem_cons.mp hb with rfl | hb
    · rw [Heap.size_push, hz₅]; exact Nat.lt_succ_of_lt (Nat.lt_succ_self _)
    · have := List.mem_range.mp hb
      rw [Heap.size_push, hz₅]; exact Nat.lt_trans this (Nat.lt_succ_of_lt (Nat.lt_succ_self _))
end
theorem top_YElt : True := by
  w_top off
  trivial
set_option maxRecDepth 100000
set_option maxHeartbeats 8000000
set_option rowWalk.seconds 0
section
variable {w : World} {p : Program} {loose : List Str} {mean : ExcName → Option Value} {mg mb : Str → Option Value} {dp un : Nat} {gd : Option (List Code)} {cn : Str} {cs : Scope} {a : Addr} {ccd : Value} {cl : List (Str × Addr)} {outer : List Env} {A₀ : Around} {base h₀ : Heap} {L : Addr} {m : Str → Option Value} {news : List (Addr × Obj)} {s : Shared} {Q E : Value → Shared → Prop}
theorem newTuple_S {M : Model} {A : Around} {vs : List Value} (F : Fr h₀ L s.heap m) (N : News h₀ L s.heap news)
    (h : ∀ D h', Fr h₀ L h' m → News h₀ L h' ((D, ({ cls := .type "tuple", data := .seq vs.toArray } : Obj)) :: news) → (∀ p ∈ news, p.1 < D) → s.heap.StaysIn h' → Q (.ref D) { s with heap := h' }) (hz : vs.length ≤ sizeLine) : wpAny M A (newTuple vs) Q E s :=
  wpAny_newObj_type (h _ _ (F.push _) (N.push F _) (fun p hp => Heap.lt_size (N p hp).1) fun b o e => Heap.get?_push_of_some _ e) (by show vs.toArray.size ≤ sizeLine; rw [List.size_toArray]; exact hz)
theorem stays_trans {h h' h'' : Heap} (a : h.StaysIn h') (b : h'.StaysIn h'') : h.StaysIn h'' := fun c o e => b c o (a c o e)
theorem none_back {h h' hr : Heap} {x : Addr} (hex : ∀ b o, hr.get? b = some o → ∃ o', h.get? b = some o') (k : h.StaysIn h') (e : h'.get? x = none) : hr.get? x = none := by
  cases q : hr.get? x with
  | none => rfl
  | some o => obtain ⟨o', e'⟩ := hex x o q; rw [k _ _ e'] at e; cases e
/-- a fresh polynomial, told of the value and the heap -/
def PolyAt (P : Params) (R : Addr) (cL : List Int) (y : Value) (hr h : Heap) : Prop :=
  ∃ x dx c u1 u2 its kk, y = .ref x ∧ hr.get? x = none ∧ hr.get? dx = none ∧ hr.get? c = none ∧ @Ne Nat dx x ∧ @Ne Nat c x ∧ @Ne Nat c dx ∧ h.get? x = some (instObj 581 dx) ∧ h.get? dx = some (polyDict P u1 u2 R c) ∧ h.get? c = some (listOf its.toArray kk) ∧ IntsAre its cL
theorem elt_prod (B : Below A₀ base outer h₀) (F : Fr h₀ L s.heap m) (X : (hdK.heap_1_39 w.params).In h₀) (N : News h₀ L s.heap news) (T : Top p loose mean mg mb h₀)
   {scope : Scope} {code : Value} {env₀ : Env} {cself ci cj cother : Addr} {oself oi oj oother : Obj} {ti tj tk₀ : Tok} {k : Nat} {hr : Heap}
   (hkind : scope.kind = .function) (hge : env₀.globals = mainGlobals)
   (n1 : (genEnv scope cl L code builtinsNs env₀).kindOf (Str.ofString "self") = some .free) (n2 : (genEnv scope cl L code builtinsNs env₀).kindOf (Str.ofString "i") = some .free) (n3 : (genEnv scope cl L code builtinsNs env₀).kindOf (Str.ofString "k") = some .local) (n4 : (genEnv scope cl L code builtinsNs env₀).kindOf (Str.ofString "other") = some .free) (n5 : (genEnv scope cl L code builtinsNs env₀).kindOf (Str.ofString "j") = some .free)
   (l1 : cl.lookup (Str.ofString "self") = some cself) (l2 : cl.lookup (Str.ofString "i") = some ci) (l4 : cl.lookup (Str.ofString "other") = some cother) (l5 : cl.lookup (Str.ofString "j") = some cj)
   {x1 dx1 Mo D1 a1 x2 dx2 D2 a2 y dy y' dy' R dR z f g : Addr} {t1 t2 t3 t4 t5 t6 t7 t8 t9 s1 s2 s3 s4 : Tok} {r1 r2 r3 r4 : Tok} {its1 its2 : Array Value} {kd1 kl1 kd2 kl2 kz kf kg : Nat} {zs fs gs : List Value} {fl gl : List Int}
   (m1 : (cself, oself) ∈ news) (m2 : (ci, oi) ∈ news) (m3 : (cother, oother) ∈ news) (m4 : (cj, oj) ∈ news) (o1 : oself.data = .cell (some (.ref x1))) (o2 : oi.data = .cell (some (.int 0 ti))) (o3 : oother.data = .cell (some (.ref x2))) (o4 : oj.data = .cell (some (.int 0 tj))) (hmk : m (Str.ofString "k") = some (.int (k : Int) tk₀))
   (m5 : (x1, instObj 638 dx1) ∈ news) (m6 : (dx1, matDict w.params t1 t2 t3 Mo D1 false) ∈ news) (m7 : (D1, listOf #[.ref a1] kd1) ∈ news) (m8 : (a1, listOf its1 kl1) ∈ news)
   (m9 : (x2, instObj 638 dx2) ∈ news) (m10 : (dx2, matDict w.params t4 t5 t6 Mo D2 true) ∈ news) (m11 : (D2, listOf #[.ref a2] kd2) ∈ news) (m12 : (a2, listOf its2 kl2) ∈ news)
   (v1 : its1[k]? = some (.ref y)) (v2 : its2[k]? = some (.ref y')) (z1 : its1.size < 8) (z2 : its2.size < 8)
   (m13 : (y, instObj 581 dy) ∈ news) (m14 : (dy, polyDict w.params t7 t8 R f) ∈ news) (m15 : (f, listOf fs.toArray kf) ∈ news) (m16 : (y', instObj 581 dy') ∈ news) (m17 : (dy', polyDict w.params t9 s1 R g) ∈ news) (m18 : (g, listOf gs.toArray kg) ∈ news)
   (m19 : (R, instObj 437 dR) ∈ news) (m20 : (dR, ringDict w.params s2 s3 s4 r1 r2 r3 r4 z) ∈ news) (m21 : (z, listOf zs.toArray kz) ∈ news)
   (hZ : IntsAre zs zetaL) (hF : IntsAre fs fl) (hG : IntsAre gs gl) (lF : fl.length = 256) (lG : gl.length = 256) (sF : Small fl) (sG : Small gl)
   (hex : ∀ b o, hr.get? b = some o → ∃ o', s.heap.get? b = some o') (hd : dp + 100 < recursionLimit) {q1 q2 q3 q4 q5 q6 q7 q8 q9 q10 q11 : Pos} {kk1 kk2 : Nat} :
   wpAny (model (PySem.Challenge.rw_yi0033_01.row.toRowW.prog) w) ({ handled := none, depth := dp, frames := some (genEnv scope cl L code builtinsNs env₀ :: outer), guards := gd, units := un } : Around)
     (eval (.BinOp (.Subscript (.Name (Str.ofString "self") q1) (.Tuple [.Name (Str.ofString "i") q2, .Name (Str.ofString "k") q3] kk1 q4) q5) .Mult (.Subscript (.Name (Str.ofString "other") q6) (.Tuple [.Name (Str.ofString "k") q7, .Name (Str.ofString "j") q8] kk2 q9) q10) q11) (genEnv scope cl L code builtinsNs env₀))
     (fun v s₃ => PolyAt w.params R (mulP fl gl 64) v hr s₃.heap ∧ Keeps s s₃) E s := by
  have hsub : ∀ p ∈ [(cself, oself), (ci, oi), (cother, oother), (cj, oj), (x1, instObj 638 dx1), (dx1, matDict w.params t1 t2 t3 Mo D1 false), (D1, listOf #[.ref a1] kd1), (a1, listOf its1 kl1), (x2, instObj 638 dx2), (dx2, matDict w.params t4 t5 t6 Mo D2 true), (D2, listOf #[.ref a2] kd2), (a2, listOf its2 kl2), (y, instObj 581 dy), (dy, polyDict w.params t7 t8 R f), (f, listOf fs.toArray kf), (y', instObj 581 dy'), (dy', polyDict w.params t9 s1 R g), (g, listOf gs.toArray kg), (R, instObj 437 dR), (dR, ringDict w.params s2 s3 s4 r1 r2 r3 r4 z), (z, listOf zs.toArray kz)], p ∈ news := by
    repeat (first | exact List.forall_mem_nil _ | refine List.forall_mem_cons.mpr ⟨by assumption, ?_⟩)
  have N2 := News.sub N hsub
  clear N hsub
  have hkE : (genEnv scope cl L code builtinsNs env₀).scope.kind = .function := hkind
  with_reducible show wpAny _ _ _ _ _ _
  k_fold
  repeat' (first | (k_unfold; (try dsimp only)) | ((with_reducible refine qb1 ?_); (try dsimp only)) | ((with_reducible refine qb2 ?_); (try dsimp only)) | ((with_reducible refine qa1 ?_); (try dsimp only)) | ((with_reducible refine qa2 ?_); (try dsimp only [List.cons_append, List.nil_append])) | ((with_reducible refine qs1 ?_); (try dsimp only)) | ((with_reducible refine qs2 ?_); (try dsimp only)) | (with_reducible refine qs3 ?_) | (with_reducible refine qs4 ?_) | ((with_reducible refine qc1 ?_); (try dsimp only)) | ((with_reducible refine qu1 ?_); (try dsimp only)) | (with_reducible refine qu2 ?_) | ((with_reducible refine qg1 ?_); (try dsimp only)) | (with_reducible refine qg2 ?_) | ((with_reducible refine qt1 ?_); (try dsimp only)) | ((with_reducible refine qr1 ?_); (try dsimp only)) | (with_reducible refine qb0 ?_) | (with_reducible refine qu0 ?_) | ((with_reducible show wpAny _ _ (spliced (backTo _ (starEach (_ :: _) _))) _ _ _); k_dflt (refine qa0 ?_)) | ((with_reducible show wpAny _ _ (execs (_ :: _) _) _ _ _); first | (k_here; k_gentoks) | (with_reducible refine qs0 ?_)) | ((with_reducible show wpAny _ _ (eval (PySem.Expr.Call (PySem.Expr.Name _ _) _ [] _) _) _ _ _); (fail_if_success (with_reducible show wpAny _ _ (eval _ (compEnvC _ _ _ _)) _ _ _)); k_dflt (refine qc0 ?_)) | ((with_reducible show wpAny _ _ (exec (Stmt.Assign [PySem.Expr.Name _ _] _ _) _) _ _ _); (fail_if_success (with_reducible show wpAny _ _ (exec (Stmt.Assign _ (PySem.Expr.ListComp _ _ _ _) _) _) _ _ _)); k_dflt (refine qg0 ?_)) | ((with_reducible show wpAny _ _ (eval (PySem.Expr.Attribute (PySem.Expr.Name _ _) _ _) _) _ _ _); k_dflt (refine qt0 ?_)) | (with_reducible refine qr0 ?_) | ((with_reducible show wpAny _ _ (call (Value.ref _) _ _) _ _ _); first | (with_reducible (k_here; (with_reducible show wpAny _ _ (call (Value.ref 578) _) _ _ _); k_dflt (refine' mul_use ?zzk1 ?zzk2 ?zzk3 ?zzk4 ?zzk5 ?zzf1 ?zzf2 ?zzm1 ?zzm2 ?zzm8 ?zzm9 ?zzm3 ?zzm4 ?zzm5 ?zzm6 ?zzm7 ?zzi1 ?zzi2 ?zzi3 ?zzn1 ?zzn2 ?zzs1 ?zzs2 ?zzd1 ?_; (case zzk1 => k_asm); (case zzk2 => k_asm); (case zzk3 => k_asm); (case zzk4 => k_asm); (case zzk5 => k_asm); (case zzf1 => exact rfl); (case zzf2 => assumption); (case zzm1 => (first | walk_at "mm" | k_mem)); (case zzm2 => (first | walk_at "mm" | k_mem)); (case zzm8 => (first | walk_at "mm" | k_mem)); (case zzm9 => (first | walk_at "mm" | k_mem)); (case zzm3 => (first | walk_at "mm" | k_mem)); (case zzm4 => (first | walk_at "mm" | k_mem)); (case zzm5 => (first | walk_at "mm" | k_mem)); (case zzm6 => (first | walk_at "mm" | k_mem)); (case zzm7 => (first | walk_at "mm" | k_mem)); (case zzi1 => assumption); (case zzi2 => assumption); (case zzi3 => assumption); (case zzn1 => assumption); (case zzn2 => assumption); (case zzs1 => assumption); (case zzs2 => assumption); (case zzd1 => ktr_room); k_whole); (intro x9 dx9 c9 u9 v9 its9 kk9 h9 tk9 i9 F9 N9 g9 gg9 ggg9 k9 e9 ee9 eee9))) | (with_reducible (k_here; (with_reducible show wpAny _ _ (call (Value.ref 284) _) _ _ _); k_dflt (first | (refine' get_row ?zzk1 ?zzk2 ?zzk3 ?zzk4 ?zzk5 ?zzf1 ?zzf2 ?zzm1 ?zzm2 ?zzm3 ?zzm4 ?zzm5 ?zzi1 ?zzi2 ?zzd1 ?_; (case zzk1 => k_asm); (case zzk2 => k_asm); (case zzk3 => k_asm); (case zzk4 => k_asm); (case zzk5 => k_asm); (case zzf1 => exact rfl); (case zzf2 => assumption); (case zzm1 => (first | walk_at "mm" | k_mem)); (case zzm2 => (first | walk_at "mm" | k_mem)); (case zzm3 => (first | walk_at "mm" | k_mem)); (case zzm4 => (first | walk_at "mm" | k_mem)); (case zzm5 => (first | walk_at "mm" | k_mem)); (case zzi1 => assumption); (case zzi2 => assumption); (case zzd1 => ktr_room); k_whole) | (refine' get_col ?zzk1 ?zzk2 ?zzk3 ?zzk4 ?zzk5 ?zzf1 ?zzf2 ?zzm1 ?zzm2 ?zzm3 ?zzm4 ?zzm5 ?zzi1 ?zzi2 ?zzd1 ?_; (case zzk1 => k_asm); (case zzk2 => k_asm); (case zzk3 => k_asm); (case zzk4 => k_asm); (case zzk5 => k_asm); (case zzf1 => exact rfl); (case zzf2 => assumption); (case zzm1 => (first | walk_at "mm" | k_mem)); (case zzm2 => (first | walk_at "mm" | k_mem)); (case zzm3 => (first | walk_at "mm" | k_mem)); (case zzm4 => (first | walk_at "mm" | k_mem)); (case zzm5 => (first | walk_at "mm" | k_mem)); (case zzi1 => assumption); (case zzi2 => assumption); (case zzd1 => ktr_room); k_whole)); (intro h9 tk9 k9; (have F9 := Fr.stays (by k_asm) k9); (have N9 := News.stays (by k_asm) k9))))) | ((with_reducible show wpAny _ _ (eval (PySem.Expr.Name _ _) _) _ _ _); (with_reducible (k_here; (with_reducible show wpAny _ _ (eval (Expr.Name _ _) (genEnv _ _ _ _ _ _)) _ _ _); k_dflt (first | (refine' nameE_F ?zzk1 ?zzk2 ?zzk3 ?zzk4 ?_ ?zzk5 ?zzk6 ?zzk7 ?zzk8; (case zzk6 => assumption); (case zzk1 => k_asm); (case zzk2 => assumption); (case zzk3 => (first | walk_at "mm" | k_mem)); (case zzk4 => assumption); (case zzk5 => assumption); (case zzk7 => decide); (case zzk8 => decide); k_whole) | (refine' nameE_L ?zzk1 ?zzk2 ?_ ?zzk3 ?zzk4 ?zzk5 ?zzk6; (case zzk5 => assumption); (case zzk1 => k_asm); (case zzk2 => assumption); (case zzk3 => exact rfl); (case zzk4 => assumption); (case zzk6 => decide); k_whole))))) | ((with_reducible show wpAny _ _ (newTuple _) _ _ _); (with_reducible (k_here; k_dflt (refine' newTuple_S ?zzF ?zzN ?_ ?zzz; (case zzF => k_asm); (case zzN => k_asm); (case zzz => kmk_size)); intro D9 h9 F9 N9 l9 k9; (try k_lt l9)))) | ((with_reducible show wpAny _ _ (setItem (Value.ref _) (Value.int _ _) _) _ _ _); (with_reducible (k_here; (with_reducible show wpAny _ _ (setItem (Value.ref _) (Value.int _ _) _) _ _ _); k_dflt (refine' set_here ?zzk1 ?zzk2 ?zzk3 ?zzk4 ?zzk5 ?zzk6 ?zzk7 ?_; (case zzk1 => k_asm); (case zzk2 => k_asm); (case zzk3 => k_upd); (case zzk4 => decide); (case zzk5 => simp; done); (case zzk6 => decide); (case zzk7 => exact rfl); k_whole); intro h' F' N'; (simp only [List.setIfInBounds_toArray, Int.toNat_zero, Int.reduceToNat, List.set_cons_zero, List.set_cons_succ] at N'); (try k_sweep)))) | ((with_reducible show wpAny _ _ (getMethod (Value.ref _) _ _) _ _ _); (with_reducible (k_here; k_dflt (first | (refine' method_inst ?zzk1 ?zzk2 ?zzk3 ?zzk4 ?zzk5 ?zzk6 ?zzk7 ?_; (case zzk1 => k_asm); (case zzk2 => k_asm); (case zzk3 => k_inst); (case zzk4 => k_is); (case zzk5 => k_is); (case zzk6 => k_is); (case zzk7 => k_get); k_whole) | (refine' kmu_own ?zzk1 ?zzk2 ?zzk3 ?zzk4 ?zzk5 ?_; (case zzk1 => k_asm); (case zzk2 => k_asm); (case zzk3 => k_inst); (case zzk4 => k_is); (case zzk5 => k_is); k_whole) | (refine' kmu_sm ?zzk1 ?zzk2 ?zzk4 ?zzk5 ?zzk6 ?zzk7 ?zzk8 ?zzk9 ?zzk10 ?zzk11 ?zzk12 ?zzk13 ?zzk14 ?_; (case zzk1 => k_asm); (case zzk2 => k_asm); (case zzk4 => k_inst); (case zzk5 => k_is); (case zzk6 => k_is); (case zzk7 => k_is); (case zzk8 => k_is); (case zzk9 => k_is); (case zzk10 => k_is); (case zzk11 => decide +kernel); (case zzk12 => k_get); (case zzk13 => k_is); (case zzk14 => k_handed); k_whole))))) | (k_end; wrow_close) | walk1 | dsimp only | (leave1; try dsimp only) | fail "no step")
  rename_i h8 tk8 k8 F8 N8
  have kx : s.heap.StaysIn h8 := by
    repeat (first | with_reducible assumption | refine stays_trans ?_ (by assumption))
  have ky := stays_trans kx k9
  dsimp only [PySem.W.CmpBack]

  exact ⟨⟨x9, dx9, c9, u9, v9, its9, kk9, rfl, none_back hex kx e9, none_back hex kx ee9, none_back hex kx eee9, ggg9.1, ggg9.2.1, gg9.1, (N9 _ (.head _)).1, (N9 _ (.tail _ (.head _))).1, (N9 _ (.tail _ (.tail _ (.head _)))).1, i9⟩, _, _, rfl, ky⟩
end
set_option maxRecDepth 100000
set_option maxHeartbeats 4000000
section
variable {prog : Program} {w : World} {A : Around} {E : Value → Shared → Prop} {s : Shared}
def TotOk (i : Nat) (tot : Value) (st : Int) : Prop := (i = 0 ∧ st = 0 ∧ ∃ t, tot = .int 0 t) ∨ (0 < i ∧ st = 2 ∧ ∃ y, tot = .ref y)
theorem sumH_loop {a : Addr} {g : Nat} {C : Addr} {fp wr : List Addr} {n₀ : Nat} {F : Nat → Value → Heap → Heap → Prop} {R : Result → Shared → Prop} (hh : A.handled = none) (haC : a ≠ C) (haf : a ∉ fp) (hsub : ∀ b ∈ wr, b ∈ fp)
    (hroom : A.depth < recursionLimit) (hcs : cStatics ∈ fp) (hcC : cStatics ≠ C) (hcw : cStatics ∉ wr) (S : Addr) (hSa : S ≠ a) (hSC : S ≠ C) (hSf : S ∉ fp) (s₀ : Shared) (J : Nat → Value → Heap → Prop)
    (hF : ∀ i v hr h, F i v hr h → ∃ y, v = .ref y)
    (hstep : ∀ i tot v (hr h : Heap) (tk : Nat) (gs : Array GenState) E', i < n₀ → F i v hr h → (∀ b o, s₀.heap.get? b = some o → ∃ o', hr.get? b = some o') → (∃ o, hr.get? S = some o) → J i tot hr → J i tot h → (i = 0 → ∃ t, tot = .int 0 t) → (∀ b o, b ∉ C :: wr → s₀.heap.get? b = some o → h.get? b = some o) → (∃ o, h.get? S = some o) →
      wpAny (model prog w) A.in1 (binaryOp .Add tot v) (fun r s'' => ∃ h' tk' y, r = .ref y ∧ s'' = { s₀ with heap := h', toks := tk', gens := gs } ∧ h.StaysIn h' ∧ J (i + 1) r h') E' { s₀ with heap := h, toks := tk, gens := gs })
    (hJ : ∀ i tot h h', J i tot h → (∃ o, h.get? S = some o) → (∀ b o, b ∉ S :: C :: wr → h.get? b = some o → h'.get? b = some o) → J i tot h')
    (hnew : s₀.heap.get? S = none)
    (hR : ∀ tot (h : Heap) (tk : Nat) (gs : Array GenState), J n₀ tot h → (∀ b o, b ∉ C :: wr → s₀.heap.get? b = some o → h.get? b = some o) → GenOnlyQ g s₀.gens gs → R (.ok (.ret tot)) { s₀ with heap := h, toks := tk, gens := gs }) :
    ∀ (k i : Nat) (tot : Value) (c : Nat) (st : Int) (h : Heap) (tk : Nat) (gs : Array GenState), TotOk i tot st → n₀ - i = k → i ≤ n₀ → GenAtH prog w A.in1 a g C fp wr n₀ F i { s₀ with heap := h, toks := tk, gens := gs } →
      h.get? S = some { cls := .type "list", dict := none, data := .seq #[tot] c, slots := #[] } → J i tot h → (∀ b o, b ∉ C :: wr → s₀.heap.get? b = some o → h.get? b = some o) → GenOnlyQ g s₀.gens gs → (∀ b o, s₀.heap.get? b = some o → ∃ o', h.get? b = some o') →
      codeAny (model prog w) A (.builtin "sum.loop" ⟨[.ref a, .ref S, rawInt st, rawInt 0], []⟩) R { s₀ with heap := h, toks := tk, gens := gs } := by
  have hSw : S ∉ C :: wr := fun q => by
    rcases List.mem_cons.mp q with q | q
    · exact hSC q
    · exact hSf (hsub _ q)
  intro k
  induction k with
  | zero =>
    intro i tot c st h tk gs ht hk hi hst hS hJi hb hg hex
    obtain rfl : i = n₀ := by omega
    refine codeAny_builtin PySem.F.entry_sum_loop ?_
    rw [Around.under_plainId PySem.F.plain_sum_loop _]
    show wpAny _ A.in1 (seqItems? (.ref S) >>= _) _ _ _
    refine wpAny_bind (wpAny_seqItems hS rfl ?_)
    show wpAny _ A.in1 (tryCatch (pyNext (.ref a)) _ >>= _) _ _ _
    refine wpAny_bind (wpAny_tryCatch (nextH_done (A := A.in1) hh hroom hst fun h' tk' gs' hk' hg' => ?_))
    have fin := hR tot h' tk' gs' (hJ _ _ _ _ hJi ⟨_, hS⟩ fun b o q e => hk' b o (fun q' => q (List.mem_cons_of_mem _ q')) e) (fun b o q e => hk' b o q (hb b o q e)) (hg.trans hg')
    rcases ht with ⟨_, _, t, rfl⟩ | ⟨_, _, y, rfl⟩
    · exact wpAny_pure fin
    · exact wpAny_pure fin
  | succ k ih =>
    intro i tot c st h tk gs ht hk hi hst hS hJi hb hg hex
    have hlt : i < n₀ := by omega
    refine codeAny_builtin PySem.F.entry_sum_loop ?_
    rw [Around.under_plainId PySem.F.plain_sum_loop _]
    show wpAny _ A.in1 (seqItems? (.ref S) >>= _) _ _ _
    refine wpAny_bind (wpAny_seqItems hS rfl ?_)
    show wpAny _ A.in1 (tryCatch (pyNext (.ref a)) _ >>= _) _ _ _
    refine wpAny_bind (wpAny_tryCatch (nextH_item (A := A.in1) hh haC haf hsub hroom hcC hcw hlt hst fun v h₁ tk₁ gs₁ hFv hex₁ hst₁ hk₁ hg₁ => ?_))
    have hS₁ := hk₁ S _ hSw hS
    have hb₁ : ∀ b o, b ∉ C :: wr → s₀.heap.get? b = some o → h₁.get? b = some o := fun b o q e => hk₁ b o q (hb b o q e)
    have hJ₁ := hJ _ _ _ _ hJi ⟨_, hS⟩ fun b o q e => hk₁ b o (fun q' => q (List.mem_cons_of_mem _ q')) e
    obtain ⟨y, rfl⟩ := hF _ _ _ _ hFv
    have cont : ∀ (h₂ : Heap) (tk₂ : Nat) (y₂ : Addr) (tot' : Value), h₁.StaysIn h₂ → J (i + 1) (.ref y₂) h₂ →
        wpAny (model prog w) A.in1 (do updateSeq S (fun _ => #[.ref y₂]); letGo [tot', .ref y]; updateSeq S (fun _ => #[.ref y₂]); again (.builtin "sum.loop" ⟨[.ref a, .ref S, rawInt 2, rawInt 0], []⟩))
          (fun fin s' => match fin with | .done f => R (.ok f) s' | .again c' => c'.quiet = true ∧ codeAny (model prog w) A c' R s') (fun e s' => R (.error e) s') { s₀ with heap := h₂, toks := tk₂, gens := gs₁ } := by
      intro h₂ tk₂ y₂ tot' hk₂ hJ₂
      have hS₂ := hk₂ _ _ hS₁
      refine wpAny_bind (wpAny_updateSeq hS₂ rfl ?_)
      have hS₃ := Heap.get?_update_self (Obj.mapSeq fun _ => #[Value.ref y₂]) hS₂ rfl
      refine wpAny_bind (wpAny_letGo ?_)
      refine wpAny_bind (wpAny_updateSeq hS₃ rfl (wpAny_pure ⟨plainId_quiet PySem.F.plain_sum_loop _, ?_⟩))
      have up : ∀ b o, b ≠ S → h₂.get? b = some o → ((h₂.update S (Obj.mapSeq fun _ => #[Value.ref y₂])).update S (Obj.mapSeq fun _ => #[Value.ref y₂])).get? b = some o := fun b o q e =>
        (Heap.get?_update_other _ _ (fun z => q z.symm)).trans ((Heap.get?_update_other _ _ (fun z => q z.symm)).trans e)
      refine ih (i + 1) (.ref y₂) _ 2 _ tk₂ gs₁ (.inr ⟨Nat.succ_pos _, rfl, _, rfl⟩) (by omega) hlt (hst₁.keeps (s := { s₀ with heap := h₁, toks := tk₁, gens := gs₁ }) hcs fun b hb o e => up b o (fun q => ?_) (hk₂ b o e)) (Heap.get?_update_self _ hS₃ rfl)
        (hJ _ _ _ _ hJ₂ ⟨_, hS₂⟩ fun b o q e => up b o (fun z => q (z ▸ List.mem_cons_self ..)) e) (fun b o q e => up b o (fun z => by rw [z, hnew] at e; cases e) (hk₂ b o (hb₁ b o q e))) (hg.trans hg₁) (fun b o e => by
          obtain ⟨o1, e1⟩ := hex b o e
          obtain ⟨o2, e2⟩ := hex₁ b o1 e1
          exact ⟨o2, up b o2 (fun z => by rw [z, hnew] at e; cases e) (hk₂ b o2 e2)⟩)
      subst q
      rcases List.mem_cons.mp hb with q | hb
      · exact hSa q
      rcases List.mem_cons.mp hb with q | hb
      · exact hSC q
      · exact hSf hb
    rcases ht with ⟨hi0, rfl, t, rfl⟩ | ⟨hi0, rfl, z, rfl⟩
    · refine wpAny_bind (wpAny_rule ?_)
      show wpAny _ A.in1 ((holding [Value.ref y] (binaryOp .Add (.int 0 t) (.ref y))).attempt >>= _) _ _ _
      refine wpAny_bind (wpAny_attempt (wpAny_holding (wpAny_mono (hstep i _ _ h h₁ tk₁ gs₁ _ hlt hFv hex ⟨_, hS⟩ hJi hJ₁ (fun _ => ⟨_, rfl⟩) hb₁ ⟨_, hS₁⟩) (fun r s'' hr => ?_) fun _ _ e => e)))
      obtain ⟨h₂, tk₂, y₂, rfl, rfl, hk₂, hJ₂⟩ := hr
      exact cont h₂ tk₂ y₂ _ hk₂ hJ₂
    · show wpAny _ A.in1 ((holding [Value.ref y] (binaryOp .Add (.ref z) (.ref y))).attempt >>= _) _ _ _
      refine wpAny_bind (wpAny_attempt (wpAny_holding (wpAny_mono (hstep i _ _ h h₁ tk₁ gs₁ _ hlt hFv hex ⟨_, hS⟩ hJi hJ₁ (fun q => absurd q (Nat.ne_of_gt hi0)) hb₁ ⟨_, hS₁⟩) (fun r s'' hr => ?_) fun _ _ e => e)))
      obtain ⟨h₂, tk₂, y₂, rfl, rfl, hk₂, hJ₂⟩ := hr
      exact cont h₂ tk₂ y₂ _ hk₂ hJ₂

theorem call_sumH {a : Addr} {g : Nat} {C : Addr} {fp wr : List Addr} {n₀ : Nat} {F : Nat → Value → Heap → Heap → Prop} {Q : Value → Shared → Prop} (hh : A.handled = none) (haC : a ≠ C) (haf : a ∉ fp) (hsub : ∀ b ∈ wr, b ∈ fp)
    (hroom : A.depth < recursionLimit) (hcs : cStatics ∈ fp) (hcC : cStatics ≠ C) (hcw : cStatics ∉ wr) (hfp : ∀ b ∈ a :: C :: fp, b < s.heap.objs.size) (J : Addr → Nat → Value → Heap → Prop)
    (hst : GenAtH prog w A.in1 a g C fp wr n₀ F 0 s)
    (hF : ∀ i v hr h, F i v hr h → ∃ y, v = .ref y) (hJ0 : ∀ S t h, J S 0 (.int 0 t) h)
    (hstep : ∀ S, s.heap.get? S = none → ∀ i tot v (hr h : Heap) (tk : Nat) (gs : Array GenState) E', i < n₀ → F i v hr h → (∀ b o, s.heap.get? b = some o → ∃ o', hr.get? b = some o') → (∃ o, hr.get? S = some o) → J S i tot hr → J S i tot h → (i = 0 → ∃ t, tot = .int 0 t) → (∀ b o, b ∉ C :: wr → s.heap.get? b = some o → h.get? b = some o) → (∃ o, h.get? S = some o) →
      wpAny (model prog w) A.in1 (binaryOp .Add tot v) (fun r s'' => ∃ h' tk' y, r = .ref y ∧ s'' = { s with heap := h', toks := tk', gens := gs } ∧ h.StaysIn h' ∧ J S (i + 1) r h') E' { s with heap := h, toks := tk, gens := gs })
    (hJ : ∀ S, s.heap.get? S = none → ∀ i tot h h', J S i tot h → (∃ o, h.get? S = some o) → (∀ b o, b ∉ S :: C :: wr → h.get? b = some o → h'.get? b = some o) → J S i tot h')
    (hQ : ∀ S tot (h : Heap) (tk : Nat) (gs : Array GenState), J S n₀ tot h → (∀ b o, b ∉ C :: wr → s.heap.get? b = some o → h.get? b = some o) → GenOnlyQ g s.gens gs → Q tot { s with heap := h, toks := tk, gens := gs }) :
    wpAny (model prog w) A (call (.builtin "sum") [.ref a]) Q E s := by
  refine call_function_tree PySem.F.kind_sum PySem.F.plain_sum PySem.F.entry_sum (PySem.F.args_sum1 _) ?_
  unfold Builtin.«sum»
  simp only [List.length_cons, List.length_nil]
  rw [if_neg (by decide)]
  refine wpAny_bind (wpAny_of_eq (show Builtin.Builtins.bindParams "sum" ["start"] 0 { } = pure [none] from rfl) ?_)
  refine wpAny_bind (wpAny_pyIter_gen hst.1 ?_)
  refine wpAny_bind (wpAny_mkInt ?_)
  refine wpAny_bind (wpAny_pure ?_)
  simp only [List.forIn_cons, List.forIn_nil]
  refine wpAny_bind (wpAny_bind (wpAny_bind (wpAny_isInstance (T := "int") (b := false) (PySem.typeIs_int _ _ _) PySem.sub_int_str ?_)))
  simp only [Bool.false_eq_true, if_false]
  refine wpAny_pure (wpAny_bind (wpAny_bind (wpAny_isInstance (T := "int") (b := false) (PySem.typeIs_int _ _ _) PySem.sub_int_bytes ?_)))
  simp only [Bool.false_eq_true, if_false]
  refine wpAny_pure (wpAny_bind (wpAny_bind (wpAny_isInstance (T := "int") (b := false) (PySem.typeIs_int _ _ _) PySem.sub_int_bytearray ?_)))
  simp only [Bool.false_eq_true, if_false]
  refine wpAny_pure (wpAny_pure ?_)
  refine wpAny_bind (wpAny_newObj_type ?_)
  have hnew : s.heap.get? s.heap.objs.size = none := by
    cases e : s.heap.get? s.heap.objs.size with
    | none => rfl
    | some o' => exact absurd (Heap.lt_size e) (Nat.lt_irrefl _)
  have off : ∀ b ∈ a :: C :: fp, s.heap.objs.size ≠ b := fun b hb q => Nat.lt_irrefl b (q ▸ hfp b hb)
  refine wpAny_pure ⟨plainId_quiet PySem.F.plain_sum_loop _, sumH_loop hh haC haf hsub hroom hcs hcC hcw s.heap.objs.size (off a (List.mem_cons_self ..)) (off C (List.mem_cons_of_mem _ (List.mem_cons_self ..)))
    (fun q => off _ (List.mem_cons_of_mem _ (List.mem_cons_of_mem _ q)) rfl) s (J s.heap.objs.size) hF (hstep _ hnew) (hJ _ hnew) hnew (fun tot h tk gs a1 a2 a3 => hQ _ tot h tk gs a1 a2 a3) n₀ 0 _ _ 0 _ _ s.gens (.inl ⟨rfl, rfl, _, rfl⟩) (Nat.sub_zero _) (Nat.zero_le _)
    (hst.keeps hcs fun b _ o e => Heap.get?_push_of_some _ e) (Heap.get?_push_size _ rfl) (hJ0 _ _ _) (fun b o _ e => Heap.get?_push_of_some _ e) (.inl rfl) (fun b o e => ⟨o, Heap.get?_push_of_some _ e⟩)⟩
end
set_option maxRecDepth 100000
set_option maxHeartbeats 4000000
theorem int_add_ref (a : Int) (t : Tok) (x C dx : Addr) :
    PySem.Meets (Builtin.«int.__add__» ⟨[.int a t, .ref x], []⟩) (fun _ R s => s.heap.get? x = some (instObj C dx) ∧ R (.ok (.ret .notImplemented)) s) :=
  .of_wp fun prog w A R s h => by
    obtain ⟨hp, g, d, tk, os⟩ := s; obtain ⟨hl, h⟩ := h
    wp_walk
    all_goals exact ⟨_, rfl, h⟩
section
variable {prog : Program} {w : World} {A : Around} {E : Value → Shared → Prop} {s : Shared} {K : Frag} {x C L f fr dx : Addr} {h₀ : Heap} {m : Str → Option Value}
theorem fills_int : fillsNumberSlot (.type "int") "add" = pure true := F.fills_int_add
theorem tryR {Q : Option Value → Shared → Prop} {name : Str} {b : Value} {ox : Obj} {od : Option Obj} (X : K.In s.heap) (I : InstAt s.heap x ox C od) (hs : findIn K (.ref C) name = some (some (.ref f))) (hf : isFn K (.ref f) = true)
    (h : wpAny (model prog w) A (call (.ref f) [.ref x, b]) (PySem.W.CmpBack fun v s' => Q (some v) s') E s) : wpAny (model prog w) A (tryMethod (.ref x) name b) Q E s := by
  unfold tryMethod
  refine wpAny_bind (special_fn X I hs (beq_iff_eq.mp hf) (wpAny_mono h (fun v s' hv => ?_) fun _ _ e => e))
  cases v <;> first | exact hv.elim | exact wpAny_pure hv
theorem zero_plus {t : Tok} {od : Option Obj} {Q : Value → Shared → Prop} (Fh : Fr h₀ L s.heap m) (X₀ : K.In h₀) (I : InstAt s.heap x (instObj C dx) C od) (hc : selfFirst K C = true)
    (hs : findIn K (.ref C) (PySem.dunder "add") = some (some (.ref f))) (hr : findIn K (.ref C) (dunderR "add") = some (some (.ref fr))) (hf : isFn K (.ref fr) = true) (hsub : subIn K (.ref C) (.type "int") = some false)
    (h : wpAny (model prog w) A (call (.ref fr) [.ref x, .int 0 t]) (PySem.W.CmpBack Q) E s) : wpAny (model prog w) A (binaryOp .Add (.int 0 t) (.ref x)) Q E s := by
  have X := X₀.keeps Fh.keep
  obtain ⟨cd, rest, hcd, hm⟩ := ksp_first hc
  have dec : wpAny (model prog w) A (tryMethod (.int 0 t) (PySem.dunder "add") (.ref x)) (fun r s' => r = none ∧ s' = s) E s := by
    with_reducible refine wpAny_tryMethod_declines (T := "int") ?h1 F.slot_int_add ?h2
    case h1 => exact rfl
    case h2 =>
      with_reducible refine call_meets F.slot_int_add ?g1 F.entry_int_add (F.args_int_add_2 _ _) (int_add_ref 0 t x C dx) ?g2
      case g1 => exact rfl
      case g2 => exact ⟨I.at_, rfl, rfl, rfl⟩
  have two := tryR (Q := fun r s' => ∃ v, r = some v ∧ Q v s') X I hr hf (wpAny_mono h (fun v s' hv => by
    cases v <;> first | exact hv.elim | exact ⟨_, rfl, hv⟩) fun _ _ e => e)
  have L2 : Looks (model prog w) s.heap (typeOf (.ref x)) (.ref C) := I.type
  have L3 : Looks (model prog w) s.heap (fillsNumberSlot (.ref C) "add") true := fills_K X hcd hm hs
  have L5 : Looks (model prog w) s.heap (isSubtype (.ref C) (.type "int")) false := looks_subIn X hsub
  have hne : (Value.type "int" == Value.ref C) = false := Bool.eq_false_iff.mpr fun q => by cases beq_iff_eq.mp q
  unfold binaryOp
  refine wpAny_holding (wpAny_bind ?_)
  show wpAny (model prog w) A (binaryOp1 "add" (.int 0 t) (.ref x)) _ E s
  unfold binaryOp1
  refine wpAny_bind (wpAny_typeOf (T := "int") rfl (wpAny_bind (L2.at ?_)))
  refine wpAny_bind (wpAny_of_eq fills_int ?_)
  refine wpAny_bind (L3.at ?_)
  refine wpAny_bind (L5.at ?_)
  have hpy : numberSlotInPython (.type "int") "add" = pure false := rfl
  refine wpAny_bind (wpAny_of_eq hpy ?_)
  refine wpAny_bind (wpAny_mono dec (fun r s' hq => ?_) fun _ _ e => e)
  obtain ⟨rfl, rfl⟩ := hq
  dsimp only
  refine wpAny_bind (wpAny_mono two (fun r s' hq => ?_) fun _ _ e => e)
  obtain ⟨v, rfl, hq⟩ := hq
  exact wpAny_bind (wpAny_rule (wpAny_pure (wpAny_pure hq)))
end
set_option maxRecDepth 100000
set_option maxHeartbeats 4000000
section
variable {prog : Program} {w : World} {A : Around} {E : Value → Shared → Prop} {s : Shared} {env : Env}
/-- where a zip of two lists stands -/
def ZSt (z TI TO i1 i2 l1 l2 : Addr) (xs ys : Array Value) (i : Nat) (h : Heap) : Prop :=
  IsZip h z TI TO .none ∧ IsPair h TI (.ref i1) (.ref i2) ∧ (∃ a b, IsPair h TO a b) ∧ h.IsListIter i1 l1 i ∧ h.IsListIter i2 l2 i ∧ h.IsList l1 xs ∧ h.IsList l2 ys
theorem keepsBut_trans {as : List Addr} {h h' h'' : Heap} (a : KeepsBut as h h') (b : KeepsBut as h' h'') : KeepsBut as h h'' := fun c o e hn => b c o (a c o e hn) hn
theorem block_zip {elt iter : PySem.Expr} {x x₂ : Str} {px px₂ tp : Pos} {tk : Nat} {scope : Scope} {cl : List (Str × Addr)} {pos : Pos} {s₂ : Shared} {z TI TO i1 i2 l1 l2 : Addr} {xs ys : Array Value} {f : Nat → Int} {RR : Value → Addr → Result → Shared → Prop}
    (hh : A.handled = none) (Dz : ZipApart z TI TO i1 i2 l1 l2) (hst : ZSt z TI TO i1 i2 l1 l2 xs ys 0 s₂.heap) (hsz : min xs.size ys.size ≤ 100000)
    (hcell : ∀ y ∈ scope.names, y.2 ≠ .cell) (hkind : scope.kind = .function) (hx : scope.names.lookup x = some .local) (hx₂ : scope.names.lookup x₂ = some .local) (hxx : x ≠ x₂)
    (helt : ∀ i v₁ v₂ C m₂ (h : Heap) (tk : Nat) E', xs[i]? = some v₁ → ys[i]? = some v₂ → h.Ns C m₂ → m₂ x = some v₁ → m₂ x₂ = some v₂ → s₂.heap.get? C = none → KeepsBut [z, TO, i1, i2] s₂.heap h →
      wpAny (model prog w) A (eval elt (compEnvC scope cl C env)) (fun y t' => ∃ h' tk' u, t' = { s₂ with heap := h', toks := tk' } ∧ h.StaysIn h' ∧ y = .int (f i) u) E' { s₂ with heap := h, toks := tk })
    (hRR : ∀ D C h tk m' vs, s₂.heap.get? D = none → s₂.heap.get? C = none → D ≠ C → h.Ns C m' → h.get? D = some (LCg.lst vs) → IntsAre vs ((List.range (min xs.size ys.size)).map f) → KeepsBut [z, TO, i1, i2] s₂.heap h → RR (.ref D) C (.ok .next) { s₂ with heap := h, toks := tk }) :
    wpAny (model prog w) A (newList []) (fun acc s₃ => wpAny (model prog w) A (newFunctionEnv scope env.globals cl [] env.qual none .none (some env)) (fun cenv s₄ =>
      codeAny (model prog w) A (.compStart (.ListComp elt [⟨.Tuple [.Name x px, .Name x₂ px₂] tk tp, iter, [], 0⟩] scope pos) 0 (.ref z) acc { cenv with scope := relabel scope env }) (RR acc cenv.locals) s₄) E s₃) E s₂ := by
  have W := WalksT.zip2 (prog := prog) (w := w) (A := A) hh z TI TO i1 i2 l1 l2 Dz xs ys
  refine wpAny_newObj_type (wpAny_newFunctionEnv hcell (by intro y hy; simp at hy) (fun h₁ hns₁ hsb₁ => ?_) hkind)
  dsimp only at hns₁ hsb₁ ⊢
  generalize hH2 : s₂.heap.push { cls := .type "list", dict := none, data := .seq ([] : List Value).toArray } = H2 at hns₁ hsb₁ ⊢
  have hC : H2.objs.size = s₂.heap.objs.size + 1 := by rw [← hH2, Heap.size_push]
  have hDC : s₂.heap.objs.size ≠ H2.objs.size := by rw [hC]; exact Nat.ne_of_lt (Nat.lt_succ_self _)
  have below : ∀ b, b < s₂.heap.objs.size → b ≠ H2.objs.size ∧ b ≠ s₂.heap.objs.size := fun b hb => ⟨by rw [hC]; exact Nat.ne_of_lt (Nat.lt_succ_of_lt hb), Nat.ne_of_lt hb⟩
  have old : ∀ b o, s₂.heap.get? b = some o → h₁.get? b = some o := fun b o e => hsb₁.extBut b o (below b (Heap.lt_size e)).1 (Heap.get?_push_of_some _ (hH2 ▸ Heap.get?_push_of_some _ e))
  have hacc : h₁.get? s₂.heap.objs.size = some (LCg.lst []) := hsb₁.extBut _ _ hDC (Heap.get?_push_of_some _ (hH2 ▸ Heap.get?_push_size _ rfl))
  have fresh : ∀ a, s₂.heap.objs.size ≤ a → s₂.heap.get? a = none := fun a ha => by
    cases e : s₂.heap.get? a with
    | none => rfl
    | some o' => exact absurd (Heap.lt_size e) (Nat.not_lt.mpr ha)
  have fD := fresh s₂.heap.objs.size (Nat.le_refl _)
  have fC := fresh H2.objs.size (by rw [hC]; exact Nat.le_succ _)
  obtain ⟨e1, e2, ⟨ea, eb, e3⟩, ⟨o4, e4, _⟩, ⟨o5, e5, _⟩, ⟨o6, e6, _⟩, ⟨o7, e7, _⟩⟩ := id hst
  have lows : ∀ b ∈ [z, TI, TO, i1, i2, l1, l2], b < s₂.heap.objs.size := by
    intro b hb
    simp only [List.mem_cons, List.not_mem_nil, or_false] at hb
    rcases hb with rfl | rfl | rfl | rfl | rfl | rfl | rfl
    · exact Heap.lt_size e1
    · exact Heap.lt_size e2
    · exact Heap.lt_size e3
    · exact Heap.lt_size e4
    · exact Heap.lt_size e5
    · exact Heap.lt_size e6
    · exact Heap.lt_size e7
  have wrs : ∀ b ∈ [z, TO, i1, i2], b < s₂.heap.objs.size := fun b hb => lows b (W.sub b hb)
  have hDw : s₂.heap.objs.size ∉ [z, TO, i1, i2] := fun q => (below _ (wrs _ q)).2 rfl
  have hCw : H2.objs.size ∉ [z, TO, i1, i2] := fun q => (below _ (wrs _ q)).1 rfl
  have loop : ∀ s₃ : Shared, s₃ = { s₂ with heap := h₁, toks := s₂.toks + ([] : List (Str × Value)).length } →
      codeAny (model prog w) A (.compLoop (.ListComp elt [⟨.Tuple [.Name x px, .Name x₂ px₂] tk tp, iter, [], 0⟩] scope pos) 0 (.ref z) (.ref s₂.heap.objs.size) (compEnvC scope cl H2.objs.size env))
        (RR (.ref s₂.heap.objs.size) H2.objs.size) s₃ := by
    rintro s₃ rfl
    refine LCp.codeAny_compLoop_pair
      (fun k s' => ∃ h' tk i vs m', s' = { s₂ with heap := h', toks := tk } ∧ i ≤ min xs.size ys.size ∧ k = min xs.size ys.size + 1 - i ∧ ZSt z TI TO i1 i2 l1 l2 xs ys i h' ∧ h'.Ns H2.objs.size m' ∧ h'.get? s₂.heap.objs.size = some (LCg.lst vs) ∧
        IntsAre vs ((List.range i).map f) ∧ KeepsBut [z, TO, i1, i2] s₂.heap h') ?_ (min xs.size ys.size + 1)
      ⟨h₁, _, 0, [], _, rfl, Nat.zero_le _, rfl, W.frame 0 _ _ hst (fun b _ o e => old b o e), hns₁, hacc, .nil, fun b o e _ => old b o e⟩
    rintro k s' ⟨h', tk, i, vs, m', rfl, hi, rfl, hst', hn', hD', hI', hk'⟩
    by_cases hlt : i < min xs.size ys.size
    · refine W.item i _ _ _ hlt hst' fun T vals h₂ tk₂ hP hT hTup hMid hk₂ => ?_
      obtain ⟨v₁, v₂, hv₁, hv₂, rfl⟩ := hP
      refine W.go _ _ _ i T _ _ _ hMid fun h₃ hst₃ hk₃ => ?_
      have hTw := W.apart i T _ hMid
      have hTup₃ : h₃.IsTuple T #[v₁, v₂] := hTup.at fun o e => hk₃ T o hTw e
      have hn₃ : h₃.Ns H2.objs.size m' := hn'.at' fun o e => hk₃ _ o hCw (hk₂ _ o hCw e)
      have hD₃ : h₃.get? s₂.heap.objs.size = some (LCg.lst vs) := hk₃ _ _ hDw (hk₂ _ _ hDw hD')
      have hK₃ : KeepsBut [z, TO, i1, i2] s₂.heap h₃ := fun b o e hb => hk₃ b o hb (hk₂ b o hb (hk' b o e hb))
      refine kcp_assign hh hTup₃ (lookup_relabel_local hx) (lookup_relabel_local hx₂) (by simp [compEnvC, relabel, hkind]) hn₃ fun h₄ tk₄ hn₄ hk₄ => ?_
      have hk₄' : ∀ b o, b ≠ H2.objs.size → h₃.get? b = some o → h₄.get? b = some o := hk₄
      have hst₄ := W.frame _ _ _ hst₃ fun b hb o e => hk₄' b o (below b (lows b hb)).1 e
      have hD₄ := hk₄' _ _ hDC hD₃
      have hK₄ : KeepsBut [z, TO, i1, i2] s₂.heap h₄ := fun b o e hb => hk₄' b o (below b (Heap.lt_size e)).1 (hK₃ b o e hb)
      refine wpAny_mono (helt i v₁ v₂ H2.objs.size _ _ _ _ hv₁ hv₂ hn₄ (by simp [hxx]) (by simp) fC hK₄) (fun y s₄ h₅ => ?_) fun _ _ e => e
      obtain ⟨h₅, tk₅, u, rfl, hk₅, rfl⟩ := h₅
      have hlen : vs.length = i := by rw [hI'.length, List.length_map, List.length_range]
      refine append_at (hsz := by show vs.toArray.size ≤ sizeLine; rw [List.size_toArray, hlen, sizeLine_eq]; omega) (hk₅ _ _ hD₄) fun h₆ hs₆ hD₆ => ?_
      refine ⟨min xs.size ys.size + 1 - (i + 1), by omega, h₆, tk₅, i + 1, vs ++ [.int (f i) u], _, rfl, hlt, rfl, W.frame _ _ _ hst₄ fun b hb o e => hs₆.extBut b o (below b (lows b hb)).2 (hk₅ b o e), (hn₄.keeps hk₅).sameBut hs₆ (Ne.symm hDC),
        hD₆.trans (congrArg some (LCg.lst_snoc vs _)), ?_, fun b o e hb => hs₆.extBut b o (below b (Heap.lt_size e)).2 (hk₅ b o (hK₄ b o e hb))⟩
      rw [List.range_succ, List.map_append]
      exact hI'.append (.cons _ _ .nil)
    · obtain rfl : i = min xs.size ys.size := Nat.le_antisymm hi (Nat.not_lt.mp hlt)
      refine W.done _ _ _ hst' fun h₂ tk₂ hk₂ => ?_
      exact hRR _ _ h₂ tk₂ m' vs fD fC hDC (hn'.at' fun o e => hk₂ _ o hCw e) (hk₂ _ _ hDw hD') hI' fun b o e hb => hk₂ b o hb (hk' b o e hb)
  exact codeAny_compStart_list (loop _ rfl) (W.self 0 _ _ _ (W.frame 0 _ _ hst fun b _ o e => old b o e) (loop _ rfl))
end
set_option maxRecDepth 100000
set_option maxHeartbeats 4000000
section
variable {prog : Program} {w : World} {A : Around} {E : Value → Shared → Prop} {s : Shared} {env : Env} {h₀ : Heap} {L : Addr} {m : Str → Option Value}
/-- the rest of `y = [elt for x, x₂ in zip(..)]`, where the iterable stands -/
def ZipPost (prog : Program) (w : World) (A : Around) (h₀ : Heap) (L : Addr) (m : Str → Option Value) (env : Env) (elt : PySem.Expr) (x x₂ y : Str) (scope : Scope) (cl : List (Str × Addr)) (Q : Flow → Shared → Prop) (xv : Value) (s₁ : Shared) : Prop :=
  ∃ z TI TO i1 i2 l1 l2 xs ys f news, xv = .ref z ∧ A.handled = none ∧ Fr h₀ L s₁.heap m ∧ News h₀ L s₁.heap news ∧ ZipApart z TI TO i1 i2 l1 l2 ∧ ZSt z TI TO i1 i2 l1 l2 xs ys 0 s₁.heap ∧ min xs.size ys.size ≤ 100000 ∧
    (∀ b ∈ [z, TO, i1, i2], b ≠ L ∧ h₀.get? b = none ∧ ∀ p ∈ news, p.1 ≠ b) ∧
    (∀ i v₁ v₂ C oC m₂ (h : Heap) (tk : Nat) E', xs[i]? = some v₁ → ys[i]? = some v₂ → LCg.NsObj oC m₂ → m₂ x = some v₁ → m₂ x₂ = some v₂ → Fr h₀ L h m → News h₀ L h ((C, oC) :: news) → GnNe C news →
      wpAny (model prog w) A (eval elt (compEnvC scope cl C env)) (fun v t' => ∃ h' tk' u, t' = { s₁ with heap := h', toks := tk' } ∧ h.StaysIn h' ∧ v = .int (f i) u) E' { s₁ with heap := h, toks := tk }) ∧
    (∀ D vs (h : Heap) (tk : Nat), IntsAre vs ((List.range (min xs.size ys.size)).map f) → Fr h₀ L h (fun q => if q = y then some (.ref D) else m q) → News h₀ L h ((D, listOf vs.toArray vs.length) :: news) → GnNe D news → Q .next { s₁ with heap := h, toks := tk })
theorem Assign_zip {elt iter : PySem.Expr} {x x₂ y : Str} {px px₂ tp py : Pos} {tk : Nat} {scope : Scope} {cl : List (Str × Addr)} {pos spos : Pos} {Q : Flow → Shared → Prop} (F₀ : Fr h₀ L s.heap m) (hLe : env.locals = L)
    (hsw : swapsWith (.ListComp elt [⟨.Tuple [.Name x px, .Name x₂ px₂] tk tp, iter, [], 0⟩] scope pos) (some (.Name y py)) spos.line env = pure true)
    (hclos : closureFor scope env = pure cl) (hcell : ∀ z ∈ scope.names, z.2 ≠ .cell) (hkind : scope.kind = .function)
    (hnames : ∀ z ∈ scope.names, z.2 = .local → scope.names.lookup z.1 = some .local) (hx : scope.names.lookup x = some .local) (hx₂ : scope.names.lookup x₂ = some .local) (hxx : x ≠ x₂)
    (hy : env.kindOf y = some .local) (hp : (env.scope.kind == .class || (env.scope.kind == .module && env.locals != env.globals)) = false)
    (h : wpAny (model prog w) A (eval iter env) (ZipPost prog w A h₀ L m env elt x x₂ y scope cl Q) E s)
    (hs : ∀ x, foldedSetIterable iter env x = pure x := by intro _; rfl) :
    wpAny (model prog w) A (exec (.Assign [.Name y py] (.ListComp elt [⟨.Tuple [.Name x px, .Name x₂ px₂] tk tp, iter, [], 0⟩] scope pos) spos) env) Q E s := by
  subst hLe
  rw [exec_Assign_Name_used _ _ _ _ hsw]
  refine wpAny_bind (wpAny_standAt (wpAny_bind ?_))
  show wpAny _ A (do let _ ← comprehension (.ListComp elt [⟨.Tuple [.Name x px, .Name x₂ px₂] tk tp, iter, [], 0⟩] scope pos) scope env _ (newList []) false (eval iter env) (some (assign (.Name y py) env))) _ _ s
  refine wpAny_bind (wpAny_mono (wpAny_comprehension_free (use := some (assign (.Name y py) env)) (Q := fun _ s' => Q .next s') rfl hs hclos hkind hnames
    (wpAny_mono h (fun xv s₁ h₁ => ?_) fun _ _ e => e)) (fun _ s' hq => wpAny_pure (wpAny_pure hq)) fun _ _ e => e)
  obtain ⟨z, TI, TO, i1, i2, l1, l2, xs, ys, f, news, rfl, hh, F, N, Dz, hst, hsz, hoff, helt, hend⟩ := h₁
  refine wpAny_pyIter_zip hst.1 ?_
  refine block_zip (f := f) hh Dz hst hsz hcell hkind hx hx₂ hxx ?_ ?_
  · intro i v₁ v₂ C m₂ h tk E' e1 e2 hn q1 q2 fC hk
    obtain ⟨oC, eC, hoC⟩ := LCg.ns_obj hn
    have F' : Fr h₀ env.locals h m := Fr.of_keeps F hk fun b hb => ⟨(hoff b hb).1, (hoff b hb).2.1⟩
    have N' : News h₀ env.locals h news := News.of_keeps N hk fun p hp q => (hoff _ q).2.2 p hp rfl
    exact helt i v₁ v₂ C oC m₂ h tk E' e1 e2 hoC q1 q2 F' (fresh_news F fC N' eC) (fresh_ne N fC)
  · intro D C h' tk m' vs fD fC hDC hn hD hI hk
    have F' : Fr h₀ env.locals h' m := Fr.of_keeps F hk fun b hb => ⟨(hoff b hb).1, (hoff b hb).2.1⟩
    have N' : News h₀ env.locals h' news := News.of_keeps N hk fun p hp q => (hoff _ q).2.2 p hp rfl
    have ND : News h₀ env.locals h' ((D, listOf vs.toArray vs.length) :: news) := fresh_news F fD N' hD
    have gD : GnNe D news := fresh_ne N fD
    have hCL : C ≠ env.locals := fun q => by
      obtain ⟨oL, _, _, hL, _⟩ := F.ns
      rw [← q, fC] at hL; cases hL
    have hC₀ : h₀.get? C = none := by
      cases e : h₀.get? C with
      | none => rfl
      | some o => have := F.keep _ _ e; rw [fC] at this; cases this
    have gC : GnNe C news := fresh_ne N fC
    show wpAny _ A (assign (.Name y py) env (.ref D)) _ _ _
    refine wpAny_assign_Name (wpAny_storeName_local hy F'.ns (fun h₂ hn₂ hs₂ => ?_) hp)
    have hL₀ : h₀.get? env.locals = none := Heap.get?_none_of_le F'.above
    have F₂ : Fr h₀ env.locals h₂ (fun z => if z = y then some (.ref D) else m z) := ⟨hn₂, fun b o e => hs₂.extBut b o (fun q => by rw [q, hL₀] at e; cases e) (F'.keep b o e), F'.above⟩
    refine ⟨m', hn.sameBut hs₂ hCL, fun h'' hs'' => hend D vs h'' _ hI (F₂.change hs'' hCL hC₀) (fun p hp => ?_) gD⟩
    have z : h₂.get? p.1 = some p.2 := hs₂.extBut _ _ (ND p hp).2.1 (ND p hp).1
    refine ⟨hs''.extBut _ _ ?_ z, (ND p hp).2⟩
    rcases List.mem_cons.mp hp with rfl | hp
    · exact hDC
    · intro q
      exact absurd (List.mem_map_of_mem (f := (·.1)) hp) (fun q' => gn_off gC (q ▸ q'))
end
theorem top_YAddQ : True := by
  w_top off
  trivial
set_option maxRecDepth 100000
set_option maxHeartbeats 8000000
set_option rowWalk.seconds 0
section
variable {w : World} {p : Program} {loose : List Str} {mean : ExcName → Option Value} {mg mb : Str → Option Value} {dp un : Nat} {gd : Option (List Code)} {cn : Str} {cs : Scope} {a : Addr} {ccd : Value} {cl : List (Str × Addr)} {outer : List Env} {A₀ : Around} {base h₀ : Heap} {L : Addr} {m : Str → Option Value} {news : List (Addr × Obj)} {s : Shared} {Q E : Value → Shared → Prop}
theorem addq_con (B : Below A₀ base outer h₀) (F : Fr h₀ L s.heap m) (X : (hdK.heap_1_39 w.params).In h₀) (N : News h₀ L s.heap news) (T : Top p loose mean mg mb h₀) (hk : cs.kind = .function)
   {x dx R dR z f : Addr} {u1 u2 t1 t2 t3 t4 t5 t6 t7 ta tb : Tok} {ia ib : Int}
   (m1 : (x, instObj 581 dx) ∈ news) (m2 : (dx, polyDict w.params u1 u2 R f) ∈ news) (m3 : (R, instObj 437 dR) ∈ news) (m4 : (dR, ringDict w.params t1 t2 t3 t4 t5 t6 t7 z) ∈ news)
   (hd : dp + 10 < recursionLimit)
   (ret : ∀ t h' tk', s.heap.StaysIn h' → Q (.int (Int.fmod (ia + ib) 3329) t) {s with heap := h', toks := tk'}) :
   wpAny (model (PySem.Challenge.rw_yi0033_01.row.toRowW.prog) w) (ktrTop dp un gd cn cs L a ccd cl outer) (call (.ref 110) [.ref x, .int ia ta, .int ib tb]) Q E s := by
  have hsub : ∀ p ∈ [(x, instObj 581 dx), (dx, polyDict w.params u1 u2 R f), (R, instObj 437 dR), (dR, ringDict w.params t1 t2 t3 t4 t5 t6 t7 z)], p ∈ news := by
    intro p hp
    rcases List.mem_cons.mp hp with rfl | hp
    · exact m1
    rcases List.mem_cons.mp hp with rfl | hp
    · exact m2
    rcases List.mem_cons.mp hp with rfl | hp
    · exact m3
    rcases List.mem_cons.mp hp with rfl | hp
    · exact m4
    cases hp
  have N2 := News.sub N hsub
  refine wpAny_call ?_
  k_dflt (refine' code_S (fun g' => Done g' s (fun v _ led => (∀ p ∈ [(x, instObj 581 dx), (dx, polyDict w.params u1 u2 R f), (R, instObj 437 dR), (dR, ringDict w.params t1 t2 t3 t4 t5 t6 t7 z)], p ∈ led) ∧ ∃ t, v = .int (Int.fmod (ia + ib) 3329) t)) ?k1 ?k2 ?k3 N2 ?k5 ?kA ?kF ?kK ?k6 ?k7 ?k8 ?k9 ?kB ?_ ?fin ?c2 ?c3 ?c4 ?c5; ((case kA => exact rfl); (case kF => first | exact rfl | assumption); (case kK => assumption); (case k1 => k_asm); (case k2 => k_asm); (case k3 => k_asm); (case k5 => k_asm); (case k6 => k_is); (case k7 => k_is); (case k8 => ktr_room); (case k9 => first | exact BindsTo.of_eq rfl | exact binds_K (by k_in) rfl (by k_is) rfl rfl rfl); (case c5 => decide); (case kB => exact locs rfl); (case c2 => exact rfl); (case c3 => exact rfl); (case c4 => exact rfl)))
  case fin =>
    intro v s' d
    obtain ⟨h', tk, led, rfl, k, hl, hs, t, rfl⟩ := d.pure (fun p hp => (N2 p hp).1) (fun _ _ _ q => q.1)
    exact ret _ _ _ k
  intro g' L' h' F' N' B' X' T' l1
  clear N2 N F X ret hsub
  k_lt l1
  with_reducible show wpAny _ _ _ _ _ _
  k_fold
  repeat' (first | (k_unfold; (try dsimp only)) | ((with_reducible refine qb1 ?_); (try dsimp only)) | ((with_reducible refine qb2 ?_); (try dsimp only)) | ((with_reducible refine qa1 ?_); (try dsimp only)) | ((with_reducible refine qa2 ?_); (try dsimp only [List.cons_append, List.nil_append])) | ((with_reducible refine qs1 ?_); (try dsimp only)) | ((with_reducible refine qs2 ?_); (try dsimp only)) | (with_reducible refine qs3 ?_) | (with_reducible refine qs4 ?_) | ((with_reducible refine qc1 ?_); (try dsimp only)) | ((with_reducible refine qu1 ?_); (try dsimp only)) | (with_reducible refine qu2 ?_) | ((with_reducible refine qg1 ?_); (try dsimp only)) | (with_reducible refine qg2 ?_) | ((with_reducible refine qt1 ?_); (try dsimp only)) | ((with_reducible refine qr1 ?_); (try dsimp only)) | (with_reducible refine qb0 ?_) | (with_reducible refine qu0 ?_) | ((with_reducible show wpAny _ _ (spliced (backTo _ (starEach (_ :: _) _))) _ _ _); k_dflt (refine qa0 ?_)) | ((with_reducible show wpAny _ _ (execs (_ :: _) _) _ _ _); first | (k_here; k_gentoks) | (with_reducible refine qs0 ?_)) | ((with_reducible show wpAny _ _ (eval (PySem.Expr.Call (PySem.Expr.Name _ _) _ [] _) _) _ _ _); (fail_if_success (with_reducible show wpAny _ _ (eval _ (compEnvC _ _ _ _)) _ _ _)); k_dflt (refine qc0 ?_)) | ((with_reducible show wpAny _ _ (exec (Stmt.Assign [PySem.Expr.Name _ _] _ _) _) _ _ _); (fail_if_success (with_reducible show wpAny _ _ (exec (Stmt.Assign _ (PySem.Expr.ListComp _ _ _ _) _) _) _ _ _)); k_dflt (refine qg0 ?_)) | ((with_reducible show wpAny _ _ (eval (PySem.Expr.Attribute (PySem.Expr.Name _ _) _ _) _) _ _ _); k_dflt (refine qt0 ?_)) | (with_reducible refine qr0 ?_) | ((with_reducible show wpAny _ _ (setItem (Value.ref _) (Value.int _ _) _) _ _ _); (with_reducible (k_here; (with_reducible show wpAny _ _ (setItem (Value.ref _) (Value.int _ _) _) _ _ _); k_dflt (refine' set_here ?zzk1 ?zzk2 ?zzk3 ?zzk4 ?zzk5 ?zzk6 ?zzk7 ?_; (case zzk1 => k_asm); (case zzk2 => k_asm); (case zzk3 => k_upd); (case zzk4 => decide); (case zzk5 => simp; done); (case zzk6 => decide); (case zzk7 => exact rfl); k_whole); intro h' F' N'; (simp only [List.setIfInBounds_toArray, Int.toNat_zero, Int.reduceToNat, List.set_cons_zero, List.set_cons_succ] at N'); (try k_sweep)))) | ((with_reducible show wpAny _ _ (getMethod (Value.ref _) _ _) _ _ _); (with_reducible (k_here; k_dflt (first | (refine' method_inst ?zzk1 ?zzk2 ?zzk3 ?zzk4 ?zzk5 ?zzk6 ?zzk7 ?_; (case zzk1 => k_asm); (case zzk2 => k_asm); (case zzk3 => k_inst); (case zzk4 => k_is); (case zzk5 => k_is); (case zzk6 => k_is); (case zzk7 => k_get); k_whole) | (refine' kmu_own ?zzk1 ?zzk2 ?zzk3 ?zzk4 ?zzk5 ?_; (case zzk1 => k_asm); (case zzk2 => k_asm); (case zzk3 => k_inst); (case zzk4 => k_is); (case zzk5 => k_is); k_whole) | (refine' kmu_sm ?zzk1 ?zzk2 ?zzk4 ?zzk5 ?zzk6 ?zzk7 ?zzk8 ?zzk9 ?zzk10 ?zzk11 ?zzk12 ?zzk13 ?zzk14 ?_; (case zzk1 => k_asm); (case zzk2 => k_asm); (case zzk4 => k_inst); (case zzk5 => k_is); (case zzk6 => k_is); (case zzk7 => k_is); (case zzk8 => k_is); (case zzk9 => k_is); (case zzk10 => k_is); (case zzk11 => decide +kernel); (case zzk12 => k_get); (case zzk13 => k_is); (case zzk14 => k_handed); k_whole))))) | (k_end; wrow_close) | walk1 | dsimp only | (leave1; try dsimp only) | fail "no step")
  all_goals (try dsimp only)
  all_goals (try (k_unfold; dsimp only))
  refine Done.intro (by k_asm) (by k_asm) ⟨?_, _, rfl⟩
  exact fun p hp => hp
end
set_option maxRecDepth 100000
set_option maxHeartbeats 8000000
set_option rowWalk.seconds 0
section
variable {w : World} {p : Program} {loose : List Str} {mean : ExcName → Option Value} {mg mb : Str → Option Value} {dp un : Nat} {gd : Option (List Code)} {cn : Str} {cs : Scope} {a : Addr} {ccd : Value} {cl : List (Str × Addr)} {outer : List Env} {A₀ : Around} {base h₀ : Heap} {L : Addr} {m : Str → Option Value} {news : List (Addr × Obj)} {s : Shared} {Q E : Value → Shared → Prop}
@[irreducible] def addP (fl gl : List Int) : List Int := (List.range 256).map fun i => Int.fmod (fl.getD i 0 + gl.getD i 0) 3329
theorem addP_eq (fl gl : List Int) : addP fl gl = (List.range 256).map fun i => Int.fmod (fl.getD i 0 + gl.getD i 0) 3329 := by unfold addP; rfl
theorem addP_len (fl gl : List Int) : (addP fl gl).length = 256 := by rw [addP_eq, List.length_map, List.length_range]
theorem ints_get {vs : List Value} {xs : List Int} (h : IntsAre vs xs) : ∀ (i : Nat) (v : Value), vs.toArray[i]? = some v → ∃ t, v = .int (xs.getD i 0) t := by
  intro i v hv
  rw [List.getElem?_toArray] at hv
  induction h generalizing i with
  | nil => simp at hv
  | cons x t h ih =>
    cases i with
    | zero => simp at hv; exact ⟨_, hv.symm⟩
    | succ i => simpa using ih i (by simpa using hv)
theorem zip_use {prog : Program} {A : Around} {env : Env} {elt : PySem.Expr} {x x₂ y : Str} {scope : Scope} {Q : Flow → Shared → Prop} {f g : Addr} {fs gs : List Value} {fl gl : List Int} {kf kg : Nat}
    (hh : A.handled = none) (F : Fr h₀ L s.heap m) (N : News h₀ L s.heap news) (m1 : (f, listOf fs.toArray kf) ∈ news) (m2 : (g, listOf gs.toArray kg) ∈ news) (hF : IntsAre fs fl) (hG : IntsAre gs gl) (lF : fl.length = 256) (lG : gl.length = 256)
    (helt : ∀ a b ta tb C oC m₂ (h : Heap) (tk : Nat) E', LCg.NsObj oC m₂ → m₂ x = some (.int a ta) → m₂ x₂ = some (.int b tb) → Fr h₀ L h m → News h₀ L h ((C, oC) :: news) → GnNe C news →
      wpAny (model prog w) A (eval elt (compEnvC scope cl C env)) (fun v t' => ∃ h' tk' u, t' = { s with heap := h', toks := tk' } ∧ h.StaysIn h' ∧ v = .int (Int.fmod (a + b) 3329) u) E' { s with heap := h, toks := tk })
    (hend : ∀ D vs (h : Heap) (tk : Nat), IntsAre vs (addP fl gl) → Fr h₀ L h (fun q => if q = y then some (.ref D) else m q) → News h₀ L h ((D, listOf vs.toArray vs.length) :: news) → GnNe D news → Q .next { s with heap := h, toks := tk }) :
    wpAny (model prog w) A (call (.type "zip") [.ref f, .ref g]) (ZipPost prog w A h₀ L m env elt x x₂ y scope cl Q) E s := by
  have hl1 := News.isList N m1
  have hl2 := News.isList N m2
  have a1 : f < s.heap.objs.size := by obtain ⟨_, e, _⟩ := hl1; exact Heap.lt_size e
  have a2 : g < s.heap.objs.size := by obtain ⟨_, e, _⟩ := hl2; exact Heap.lt_size e
  have nF : fs.length = 256 := by rw [hF.length, lF]
  have nG : gs.length = 256 := by rw [hG.length, lG]
  have hmin : min fs.toArray.size gs.toArray.size = 256 := by rw [List.size_toArray, List.size_toArray, nF, nG]; rfl
  have hL := F.ns.lt
  refine call_zip_2 hl1 hl2 fun h' hz hTI hTO hi1 hi2 _ hk => ⟨_, _, _, _, _, _, _, _, _, (fun i => Int.fmod (fl.getD i 0 + gl.getD i 0) 3329), news, rfl, hh, F.keeps hk, fun p hp => ⟨hk _ _ (N p hp).1, (N p hp).2⟩, zipApart_new a1 a2,
    ⟨hz, hTI, ⟨_, _, hTO⟩, hi1, hi2, Heap.IsList.at hl1 (fun o e => hk _ o e), Heap.IsList.at hl2 (fun o e => hk _ o e)⟩, by rw [hmin]; decide, ?_, ?_, ?_⟩
  · intro b hb
    have hge : s.heap.objs.size ≤ b := by
      simp only [List.mem_cons, List.not_mem_nil, or_false] at hb
      rcases hb with rfl | rfl | rfl | rfl
      · exact Nat.le_add_right _ 4
      · exact Nat.le_add_right _ 3
      · exact Nat.le_refl _
      · exact Nat.le_add_right _ 1
    have hn : s.heap.get? b = none := by
      cases e : s.heap.get? b with
      | none => rfl
      | some o' => exact absurd (Heap.lt_size e) (Nat.not_lt.mpr hge)
    refine ⟨Nat.ne_of_gt (Nat.lt_of_lt_of_le hL hge), ?_, fun p hp q => ?_⟩
    · cases e : h₀.get? b with
      | none => rfl
      | some o' => have := F.keep b o' e; rw [hn] at this; cases this
    · have := (N p hp).1; rw [q, hn] at this; cases this
  · intro i v₁ v₂ C oC m₂ h tk E' e1 e2 hC q1 q2 F' N' gC
    obtain ⟨ta, rfl⟩ := ints_get hF i v₁ e1
    obtain ⟨tb, rfl⟩ := ints_get hG i v₂ e2
    exact helt _ _ _ _ C oC m₂ h tk E' hC q1 q2 F' N' gC
  · intro D vs h tk hI F' N' gD
    refine hend D vs h tk ?_ F' N' gD
    rw [hmin] at hI
    rw [addP_eq]
    exact hI
end
theorem top_YAdd2 : True := by
  w_top off
  trivial
set_option maxRecDepth 100000
set_option maxHeartbeats 8000000
set_option rowWalk.seconds 0
section
variable {w : World} {p : Program} {loose : List Str} {mean : ExcName → Option Value} {mg mb : Str → Option Value} {dp un : Nat} {gd : Option (List Code)} {cn : Str} {cs : Scope} {a : Addr} {ccd : Value} {cl : List (Str × Addr)} {outer : List Env} {A₀ : Around} {base h₀ : Heap} {L : Addr} {m : Str → Option Value} {news : List (Addr × Obj)} {s : Shared} {Q E : Value → Shared → Prop}
def AddP (sub : List (Addr × Obj)) (cL : List Int) (v : Value) (_h : Heap) (led : List (Addr × Obj)) : Prop :=
  (∀ p ∈ sub, p ∈ led) ∧ ∃ c its kk, v = .ref c ∧ GnNe c sub ∧ IntsAre its cL ∧ (c, listOf its.toArray kk) ∈ led
theorem add_low (B : Below A₀ base outer h₀) (F : Fr h₀ L s.heap m) (X : (hdK.heap_1_39 w.params).In h₀) (N : News h₀ L s.heap news) (T : Top p loose mean mg mb h₀) (hk : cs.kind = .function)
   {x dx y dy R dR z f g : Addr} {u1 u2 v1 v2 t1 t2 t3 t4 t5 t6 t7 : Tok} {fs gs : List Value} {fl gl : List Int} {kf kg : Nat}
   (m1 : (x, instObj 581 dx) ∈ news) (m2 : (dx, polyDict w.params u1 u2 R f) ∈ news) (m8 : (y, instObj 581 dy) ∈ news) (m9 : (dy, polyDict w.params v1 v2 R g) ∈ news) (m3 : (R, instObj 437 dR) ∈ news) (m4 : (dR, ringDict w.params t1 t2 t3 t4 t5 t6 t7 z) ∈ news)
   (m6 : (f, listOf fs.toArray kf) ∈ news) (m7 : (g, listOf gs.toArray kg) ∈ news) (hF : IntsAre fs fl) (hG : IntsAre gs gl) (lF : fl.length = 256) (lG : gl.length = 256)
   (hd : dp + 60 < recursionLimit)
   (ret : ∀ c its kk h' tk', IntsAre its (addP fl gl) → Fr h₀ L h' m → News h₀ L h' ((c, listOf its.toArray kk) :: news) → GnNe c news → s.heap.StaysIn h' → Q (.ref c) {s with heap := h', toks := tk'}) :
   wpAny (model (PySem.Challenge.rw_yi0033_01.row.toRowW.prog) w) (ktrTop dp un gd cn cs L a ccd cl outer) (call (.ref 132) [.ref x, .ref y]) Q E s := by
  have hsub : ∀ p ∈ [(x, instObj 581 dx), (dx, polyDict w.params u1 u2 R f), (y, instObj 581 dy), (dy, polyDict w.params v1 v2 R g), (R, instObj 437 dR), (dR, ringDict w.params t1 t2 t3 t4 t5 t6 t7 z), (f, listOf fs.toArray kf), (g, listOf gs.toArray kg)], p ∈ news := by
    intro p hp
    rcases List.mem_cons.mp hp with rfl | hp
    · exact m1
    rcases List.mem_cons.mp hp with rfl | hp
    · exact m2
    rcases List.mem_cons.mp hp with rfl | hp
    · exact m8
    rcases List.mem_cons.mp hp with rfl | hp
    · exact m9
    rcases List.mem_cons.mp hp with rfl | hp
    · exact m3
    rcases List.mem_cons.mp hp with rfl | hp
    · exact m4
    rcases List.mem_cons.mp hp with rfl | hp
    · exact m6
    rcases List.mem_cons.mp hp with rfl | hp
    · exact m7
    cases hp
  have N2 := News.sub N hsub
  refine wpAny_call ?_
  k_dflt (refine' code_SC (fun g' => Done g' s (AddP [(x, instObj 581 dx), (dx, polyDict w.params u1 u2 R f), (y, instObj 581 dy), (dy, polyDict w.params v1 v2 R g), (R, instObj 437 dR), (dR, ringDict w.params t1 t2 t3 t4 t5 t6 t7 z), (f, listOf fs.toArray kf), (g, listOf gs.toArray kg)] (addP fl gl))) ?k1 ?k2 ?k3 N2 ?k5 ?kA ?kF ?kK ?k6 ?k7 ?k8 ?k9 ?kB ?kD ?_ ?fin ?c2 ?c3 ?c4; ((case kA => exact rfl); (case kF => first | exact rfl | assumption); (case kK => assumption); (case k1 => k_asm); (case k2 => k_asm); (case k3 => k_asm); (case k5 => k_asm); (case k6 => k_is); (case k7 => k_is); (case k8 => ktr_room); (case k9 => first | exact BindsTo.of_eq rfl | exact binds_K (by k_in) rfl (by k_is) rfl rfl rfl); (case kB => exact rfl); (case kD => decide +kernel); (case c2 => exact rfl); (case c3 => exact rfl); (case c4 => exact rfl)))
  case fin =>
    intro v s' d
    obtain ⟨h', tk, led, rfl, k, hl, hs, c, its, kk, rfl, g3, i1, e3⟩ := d.pure (fun p hp => (N2 p hp).1) (fun _ _ _ q => q.1)
    have hc := fresh_of hl e3 g3
    exact ret c its kk h' tk i1 (Fr.stays F k) (fresh_news F hc (News.stays N k) (hl _ e3).1) (fresh_ne N hc) k
  intro g' L' h' tk' cells' F' N' Y' B' X' T' l1
  clear N2 N F X ret hsub
  have l1' := l1
  k_lt l1
  k_cells Y'
  have gL1 := gnc1 l1'
  have gL2 := gnc2 l1'
  simp only [List.cons_append, List.nil_append] at N'
  with_reducible show wpAny _ _ _ _ _ _
  k_fold
  repeat' (first | (k_unfold; (try dsimp only)) | ((with_reducible refine qb1 ?_); (try dsimp only)) | ((with_reducible refine qb2 ?_); (try dsimp only)) | ((with_reducible refine qa1 ?_); (try dsimp only)) | ((with_reducible refine qa2 ?_); (try dsimp only [List.cons_append, List.nil_append])) | ((with_reducible refine qs1 ?_); (try dsimp only)) | ((with_reducible refine qs2 ?_); (try dsimp only)) | (with_reducible refine qs3 ?_) | (with_reducible refine qs4 ?_) | ((with_reducible refine qc1 ?_); (try dsimp only)) | ((with_reducible refine qu1 ?_); (try dsimp only)) | (with_reducible refine qu2 ?_) | ((with_reducible refine qg1 ?_); (try dsimp only)) | (with_reducible refine qg2 ?_) | ((with_reducible refine qt1 ?_); (try dsimp only)) | ((with_reducible refine qr1 ?_); (try dsimp only)) | (with_reducible refine qb0 ?_) | (with_reducible refine qu0 ?_) | ((with_reducible show wpAny _ _ (spliced (backTo _ (starEach (_ :: _) _))) _ _ _); k_dflt (refine qa0 ?_)) | ((with_reducible show wpAny _ _ (execs (_ :: _) _) _ _ _); first | (k_here; k_gentoks) | (with_reducible refine qs0 ?_)) | ((with_reducible show wpAny _ _ (eval (PySem.Expr.Call (PySem.Expr.Name _ _) _ [] _) _) _ _ _); (fail_if_success (with_reducible show wpAny _ _ (eval _ (compEnvC _ _ _ _)) _ _ _)); k_dflt (refine qc0 ?_)) | ((with_reducible show wpAny _ _ (exec (Stmt.Assign [PySem.Expr.Name _ _] _ _) _) _ _ _); (fail_if_success (with_reducible show wpAny _ _ (exec (Stmt.Assign _ (PySem.Expr.ListComp _ _ _ _) _) _) _ _ _)); k_dflt (refine qg0 ?_)) | ((with_reducible show wpAny _ _ (eval (PySem.Expr.Attribute (PySem.Expr.Name _ _) _ _) _) _ _ _); k_dflt (refine qt0 ?_)) | (with_reducible refine qr0 ?_) | ((with_reducible show wpAny _ _ (call (Value.ref _) _ _) _ _ _); first | (with_reducible (k_here; (with_reducible show wpAny _ _ (call (Value.ref 110) _) _ _ _); k_dflt (refine' addq_con ?zzk1 ?zzk2 ?zzk3 ?zzk4 ?zzk5 ?zzk6 ?zzm1 ?zzm2 ?zzm3 ?zzm4 ?zzd1 ?_; (case zzk1 => k_asm); (case zzk2 => k_asm); (case zzk3 => k_asm); (case zzk4 => k_asm); (case zzk5 => k_asm); (case zzk6 => first | exact rfl | assumption); (case zzm1 => (first | walk_at "mm" | k_mem)); (case zzm2 => (first | walk_at "mm" | k_mem)); (case zzm3 => (first | walk_at "mm" | k_mem)); (case zzm4 => (first | walk_at "mm" | k_mem)); (case zzd1 => ktr_room); k_whole); (intro t9 h9 tk9 k9; first | exact ⟨_, _, _, rfl, k9, rfl⟩ | ((rename Fr _ _ _ _ => F8); (rename News _ _ _ _ => N8); (have F9 := Fr.stays F8 k9); (have N9 := News.stays N8 k9); clear k9 F8 N8; (try k_sweep)))))) | ((with_reducible show wpAny _ _ (exec (Stmt.Assign _ _ _) _) _ _ _); (with_reducible (k_here; (with_reducible show wpAny _ _ _ _ _ _); k_dflt (refine Assign_zip (F₀ := by k_asm) (by rfl) (by with_unfolding_all rfl) (by with_unfolding_all rfl) (by decide) (by rfl) (by decide) (by rfl) (by rfl) (by decide) (by rfl) (by rfl) ?_)))) | ((with_reducible show wpAny _ _ (call (Value.type "zip") _ _) _ _ _); (with_reducible (k_here; (with_reducible show wpAny _ _ (call (Value.type _) [Value.ref _, Value.ref _]) (ZipPost _ _ _ _ _ _ _ _ _ _ _ _ _ _) _ _); k_dflt (refine' zip_use ?zzk1 ?zzk2 ?zzk3 ?zzm1 ?zzm2 ?zzi1 ?zzi2 ?zzn1 ?zzn2 ?zzr1 ?zzr2; (case zzk1 => exact rfl); (case zzk2 => k_asm); (case zzk3 => k_asm); (case zzm1 => (first | walk_at "mm" | k_mem)); (case zzm2 => (first | walk_at "mm" | k_mem)); (case zzi1 => assumption); (case zzi2 => assumption); (case zzn1 => assumption); (case zzn2 => assumption)); (case' zzr1 => intro a9 b9 ta9 tb9 C' oC' m' h' tk' E' hC' hx' hy' F' N' g'); (case' zzr2 => intro D9 vs9 h9 tk9 i9 F9 N9 g9)))) | ((with_reducible show wpAny _ _ (setItem (Value.ref _) (Value.int _ _) _) _ _ _); (with_reducible (k_here; (with_reducible show wpAny _ _ (setItem (Value.ref _) (Value.int _ _) _) _ _ _); k_dflt (refine' set_here ?zzk1 ?zzk2 ?zzk3 ?zzk4 ?zzk5 ?zzk6 ?zzk7 ?_; (case zzk1 => k_asm); (case zzk2 => k_asm); (case zzk3 => k_upd); (case zzk4 => decide); (case zzk5 => simp; done); (case zzk6 => decide); (case zzk7 => exact rfl); k_whole); intro h' F' N'; (simp only [List.setIfInBounds_toArray, Int.toNat_zero, Int.reduceToNat, List.set_cons_zero, List.set_cons_succ] at N'); (try k_sweep)))) | ((with_reducible show wpAny _ _ (getMethod (Value.ref _) _ _) _ _ _); (with_reducible (k_here; k_dflt (first | (refine' method_inst ?zzk1 ?zzk2 ?zzk3 ?zzk4 ?zzk5 ?zzk6 ?zzk7 ?_; (case zzk1 => k_asm); (case zzk2 => k_asm); (case zzk3 => k_inst); (case zzk4 => k_is); (case zzk5 => k_is); (case zzk6 => k_is); (case zzk7 => k_get); k_whole) | (refine' kmu_own ?zzk1 ?zzk2 ?zzk3 ?zzk4 ?zzk5 ?_; (case zzk1 => k_asm); (case zzk2 => k_asm); (case zzk3 => k_inst); (case zzk4 => k_is); (case zzk5 => k_is); k_whole) | (refine' kmu_sm ?zzk1 ?zzk2 ?zzk4 ?zzk5 ?zzk6 ?zzk7 ?zzk8 ?zzk9 ?zzk10 ?zzk11 ?zzk12 ?zzk13 ?zzk14 ?_; (case zzk1 => k_asm); (case zzk2 => k_asm); (case zzk4 => k_inst); (case zzk5 => k_is); (case zzk6 => k_is); (case zzk7 => k_is); (case zzk8 => k_is); (case zzk9 => k_is); (case zzk10 => k_is); (case zzk11 => decide +kernel); (case zzk12 => k_get); (case zzk13 => k_is); (case zzk14 => k_handed); k_whole))))) | (k_end; wrow_close) | walk1 | dsimp only | (leave1; try dsimp only) | fail "no step")
  all_goals (try dsimp only)
  all_goals (try (k_unfold; dsimp only))
  refine Done.intro (by k_asm) (by k_asm) ?_
  refine' ⟨?sb, _, _, _, rfl, ?g3, ?i1, ?m3⟩
  case m3 => (first | walk_at "mm" | k_mem)
  case i1 => assumption
  case sb => exact fun p hp => .tail _ (.tail _ hp)
  case g3 => exact ⟨by k_ne, by k_ne, by k_ne, by k_ne, by k_ne, by k_ne, by k_ne, by k_ne, trivial⟩
end
set_option maxRecDepth 100000
set_option maxHeartbeats 8000000
set_option rowWalk.seconds 0
section
variable {w : World} {p : Program} {loose : List Str} {mean : ExcName → Option Value} {mg mb : Str → Option Value} {dp un : Nat} {gd : Option (List Code)} {cn : Str} {cs : Scope} {a : Addr} {ccd : Value} {cl : List (Str × Addr)} {outer : List Env} {A₀ : Around} {base h₀ : Heap} {L : Addr} {m : Str → Option Value} {news : List (Addr × Obj)} {s : Shared} {Q E : Value → Shared → Prop}
theorem copy_use {prog : Program} {A : Around} {f : Addr} {its : Array Value} {n : Nat} (F : Fr h₀ L s.heap m) (N : News h₀ L s.heap news) (hm : (f, listOf its n) ∈ news) (hz : its.size ≤ 1000000)
    (h : ∀ D h', Fr h₀ L h' m → News h₀ L h' ((D, listOf its 0) :: news) → GnNe D news → Q (.ref D) { s with heap := h' }) : wpAny (model prog w) A (call (.builtin "list.copy") [.ref f]) Q E s := by
  have z := N _ hm
  have fresh : s.heap.get? s.heap.objs.size = none := by
    cases e : s.heap.get? s.heap.objs.size with
    | none => rfl
    | some o' => exact absurd (Heap.lt_size e) (Nat.lt_irrefl _)
  have k : s.heap.StaysIn (s.heap.push { cls := Value.type "list", data := Data.seq its }) := fun b o e => Heap.get?_push_of_some _ e
  refine call_meets PySem.F.slot_list_copy ⟨_, z.1, rfl⟩ PySem.F.entry_list_copy (PySem.F.args_list_copy_1 _) (PySem.AutoSeq1.list_copy_list_0 f its n (by rw [sizeLine_eq]; omega)) ⟨z.1, ?_⟩
  exact h _ _ (Fr.stays F k) (fresh_news F fresh (News.stays N k) (Heap.get?_push_size _ rfl)) (fresh_ne N fresh)
end
theorem top_YAddZ : True := by
  w_top off
  trivial
set_option maxRecDepth 100000
set_option maxHeartbeats 8000000
set_option rowWalk.seconds 0
section
variable {w : World} {p : Program} {loose : List Str} {mean : ExcName → Option Value} {mg mb : Str → Option Value} {dp un : Nat} {gd : Option (List Code)} {cn : Str} {cs : Scope} {a : Addr} {ccd : Value} {cl : List (Str × Addr)} {outer : List Env} {A₀ : Around} {base h₀ : Heap} {L : Addr} {m : Str → Option Value} {news : List (Addr × Obj)} {s : Shared} {Q E : Value → Shared → Prop}
theorem addz_low (B : Below A₀ base outer h₀) (F : Fr h₀ L s.heap m) (X : (hdK.heap_1_39 w.params).In h₀) (N : News h₀ L s.heap news) (T : Top p loose mean mg mb h₀) (hk : cs.kind = .function)
   {x dx R dR z f : Addr} {u1 u2 t1 t2 t3 t4 t5 t6 t7 tz : Tok} {fs : List Value} {fl : List Int} {kf : Nat}
   (m1 : (x, instObj 581 dx) ∈ news) (m2 : (dx, polyDict w.params u1 u2 R f) ∈ news) (m3 : (R, instObj 437 dR) ∈ news) (m4 : (dR, ringDict w.params t1 t2 t3 t4 t5 t6 t7 z) ∈ news)
   (m6 : (f, listOf fs.toArray kf) ∈ news) (hF : IntsAre fs fl) (lF : fl.length = 256) (sF : Small fl)
   (hd : dp + 60 < recursionLimit)
   (ret : ∀ c its kk h' tk', IntsAre its fl → Fr h₀ L h' m → News h₀ L h' ((c, listOf its.toArray kk) :: news) → GnNe c news → s.heap.StaysIn h' → Q (.ref c) {s with heap := h', toks := tk'}) :
   wpAny (model (PySem.Challenge.rw_yi0033_01.row.toRowW.prog) w) (ktrTop dp un gd cn cs L a ccd cl outer) (call (.ref 132) [.ref x, .int 0 tz]) Q E s := by
  have hsub : ∀ p ∈ [(x, instObj 581 dx), (dx, polyDict w.params u1 u2 R f), (R, instObj 437 dR), (dR, ringDict w.params t1 t2 t3 t4 t5 t6 t7 z), (f, listOf fs.toArray kf)], p ∈ news := by
    intro p hp
    rcases List.mem_cons.mp hp with rfl | hp
    · exact m1
    rcases List.mem_cons.mp hp with rfl | hp
    · exact m2
    rcases List.mem_cons.mp hp with rfl | hp
    · exact m3
    rcases List.mem_cons.mp hp with rfl | hp
    · exact m4
    rcases List.mem_cons.mp hp with rfl | hp
    · exact m6
    cases hp
  have N2 := News.sub N hsub
  refine wpAny_call ?_
  k_dflt (refine' code_SC (fun g' => Done g' s (AddP [(x, instObj 581 dx), (dx, polyDict w.params u1 u2 R f), (R, instObj 437 dR), (dR, ringDict w.params t1 t2 t3 t4 t5 t6 t7 z), (f, listOf fs.toArray kf)] fl)) ?k1 ?k2 ?k3 N2 ?k5 ?kA ?kF ?kK ?k6 ?k7 ?k8 ?k9 ?kB ?kD ?_ ?fin ?c2 ?c3 ?c4; ((case kA => exact rfl); (case kF => first | exact rfl | assumption); (case kK => assumption); (case k1 => k_asm); (case k2 => k_asm); (case k3 => k_asm); (case k5 => k_asm); (case k6 => k_is); (case k7 => k_is); (case k8 => ktr_room); (case k9 => first | exact BindsTo.of_eq rfl | exact binds_K (by k_in) rfl (by k_is) rfl rfl rfl); (case kB => exact rfl); (case kD => decide +kernel); (case c2 => exact rfl); (case c3 => exact rfl); (case c4 => exact rfl)))
  case fin =>
    intro v s' d
    obtain ⟨h', tk, led, rfl, k, hl, hs, c, its, kk, rfl, g3, i1, e3⟩ := d.pure (fun p hp => (N2 p hp).1) (fun _ _ _ q => q.1)
    have hc := fresh_of hl e3 g3
    exact ret c its kk h' tk i1 (Fr.stays F k) (fresh_news F hc (News.stays N k) (hl _ e3).1) (fresh_ne N hc) k
  intro g' L' h' tk' cells' F' N' Y' B' X' T' l1
  clear N2 N F X ret hsub
  have l1' := l1
  k_lt l1
  k_cells Y'
  have gL1 := gnc1 l1'
  have gL2 := gnc2 l1'
  simp only [List.cons_append, List.nil_append] at N'
  with_reducible show wpAny _ _ _ _ _ _
  k_fold
  repeat' (first | (k_unfold; (try dsimp only)) | ((with_reducible refine qb1 ?_); (try dsimp only)) | ((with_reducible refine qb2 ?_); (try dsimp only)) | ((with_reducible refine qa1 ?_); (try dsimp only)) | ((with_reducible refine qa2 ?_); (try dsimp only [List.cons_append, List.nil_append])) | ((with_reducible refine qs1 ?_); (try dsimp only)) | ((with_reducible refine qs2 ?_); (try dsimp only)) | (with_reducible refine qs3 ?_) | (with_reducible refine qs4 ?_) | ((with_reducible refine qc1 ?_); (try dsimp only)) | ((with_reducible refine qu1 ?_); (try dsimp only)) | (with_reducible refine qu2 ?_) | ((with_reducible refine qg1 ?_); (try dsimp only)) | (with_reducible refine qg2 ?_) | ((with_reducible refine qt1 ?_); (try dsimp only)) | ((with_reducible refine qr1 ?_); (try dsimp only)) | (with_reducible refine qb0 ?_) | (with_reducible refine qu0 ?_) | ((with_reducible show wpAny _ _ (spliced (backTo _ (starEach (_ :: _) _))) _ _ _); k_dflt (refine qa0 ?_)) | ((with_reducible show wpAny _ _ (execs (_ :: _) _) _ _ _); first | (k_here; k_gentoks) | (with_reducible refine qs0 ?_)) | ((with_reducible show wpAny _ _ (eval (PySem.Expr.Call (PySem.Expr.Name _ _) _ [] _) _) _ _ _); (fail_if_success (with_reducible show wpAny _ _ (eval _ (compEnvC _ _ _ _)) _ _ _)); k_dflt (refine qc0 ?_)) | ((with_reducible show wpAny _ _ (exec (Stmt.Assign [PySem.Expr.Name _ _] _ _) _) _ _ _); (fail_if_success (with_reducible show wpAny _ _ (exec (Stmt.Assign _ (PySem.Expr.ListComp _ _ _ _) _) _) _ _ _)); k_dflt (refine qg0 ?_)) | ((with_reducible show wpAny _ _ (eval (PySem.Expr.Attribute (PySem.Expr.Name _ _) _ _) _) _ _ _); k_dflt (refine qt0 ?_)) | (with_reducible refine qr0 ?_) | ((with_reducible show wpAny _ _ (call (Value.ref _) _ _) _ _ _); first | (with_reducible (k_here; (with_reducible show wpAny _ _ (call (Value.ref 110) _) _ _ _); k_dflt (refine' addq_con ?zzk1 ?zzk2 ?zzk3 ?zzk4 ?zzk5 ?zzk6 ?zzm1 ?zzm2 ?zzm3 ?zzm4 ?zzd1 ?_; (case zzk1 => k_asm); (case zzk2 => k_asm); (case zzk3 => k_asm); (case zzk4 => k_asm); (case zzk5 => k_asm); (case zzk6 => first | exact rfl | assumption); (case zzm1 => (first | walk_at "mm" | k_mem)); (case zzm2 => (first | walk_at "mm" | k_mem)); (case zzm3 => (first | walk_at "mm" | k_mem)); (case zzm4 => (first | walk_at "mm" | k_mem)); (case zzd1 => ktr_room); k_whole); (intro t9 h9 tk9 k9; first | exact ⟨_, _, _, rfl, k9, rfl⟩ | ((rename Fr _ _ _ _ => F8); (rename News _ _ _ _ => N8); (have F9 := Fr.stays F8 k9); (have N9 := News.stays N8 k9); clear k9 F8 N8; (try k_sweep)))))) | ((with_reducible show wpAny _ _ (call (Value.builtin "list.copy") _ _) _ _ _); (with_reducible (k_here; (with_reducible show wpAny _ _ (call (Value.builtin "list.copy") [Value.ref _]) _ _ _); k_dflt (refine' copy_use ?zzk1 ?zzk2 ?zzm1 ?zzz1 ?_; (case zzk1 => k_asm); (case zzk2 => k_asm); (case zzm1 => (first | walk_at "mm" | k_mem)); (case zzz1 => (have zz9 := IntsAre.length (by assumption); rw [List.size_toArray, zz9]; omega)); k_whole); (intro D9 h9 F9 N9 g9; (try k_sweep))))) | ((with_reducible show wpAny _ _ (exec (Stmt.Assign _ _ _) _) _ _ _); (with_reducible (k_here; (with_reducible show wpAny _ _ _ _ _ _); k_dflt (refine Assign_zip (F₀ := by k_asm) (by rfl) (by with_unfolding_all rfl) (by with_unfolding_all rfl) (by decide) (by rfl) (by decide) (by rfl) (by rfl) (by decide) (by rfl) (by rfl) ?_)))) | ((with_reducible show wpAny _ _ (call (Value.type "zip") _ _) _ _ _); (with_reducible (k_here; (with_reducible show wpAny _ _ (call (Value.type _) [Value.ref _, Value.ref _]) (ZipPost _ _ _ _ _ _ _ _ _ _ _ _ _ _) _ _); k_dflt (refine' zip_use ?zzk1 ?zzk2 ?zzk3 ?zzm1 ?zzm2 ?zzi1 ?zzi2 ?zzn1 ?zzn2 ?zzr1 ?zzr2; (case zzk1 => exact rfl); (case zzk2 => k_asm); (case zzk3 => k_asm); (case zzm1 => (first | walk_at "mm" | k_mem)); (case zzm2 => (first | walk_at "mm" | k_mem)); (case zzi1 => assumption); (case zzi2 => assumption); (case zzn1 => assumption); (case zzn2 => assumption)); (case' zzr1 => intro a9 b9 ta9 tb9 C' oC' m' h' tk' E' hC' hx' hy' F' N' g'); (case' zzr2 => intro D9 vs9 h9 tk9 i9 F9 N9 g9)))) | ((with_reducible show wpAny _ _ (setItem (Value.ref _) (Value.int _ _) _) _ _ _); (with_reducible (k_here; (with_reducible show wpAny _ _ (setItem (Value.ref _) (Value.int _ _) _) _ _ _); k_dflt (refine' set_here ?zzk1 ?zzk2 ?zzk3 ?zzk4 ?zzk5 ?zzk6 ?zzk7 ?_; (case zzk1 => k_asm); (case zzk2 => k_asm); (case zzk3 => k_upd); (case zzk4 => decide); (case zzk5 => simp; done); (case zzk6 => decide); (case zzk7 => exact rfl); k_whole); intro h' F' N'; (simp only [List.setIfInBounds_toArray, Int.toNat_zero, Int.reduceToNat, List.set_cons_zero, List.set_cons_succ] at N'); (try k_sweep)))) | ((with_reducible show wpAny _ _ (getMethod (Value.ref _) _ _) _ _ _); (with_reducible (k_here; k_dflt (first | (refine' method_inst ?zzk1 ?zzk2 ?zzk3 ?zzk4 ?zzk5 ?zzk6 ?zzk7 ?_; (case zzk1 => k_asm); (case zzk2 => k_asm); (case zzk3 => k_inst); (case zzk4 => k_is); (case zzk5 => k_is); (case zzk6 => k_is); (case zzk7 => k_get); k_whole) | (refine' kmu_own ?zzk1 ?zzk2 ?zzk3 ?zzk4 ?zzk5 ?_; (case zzk1 => k_asm); (case zzk2 => k_asm); (case zzk3 => k_inst); (case zzk4 => k_is); (case zzk5 => k_is); k_whole) | (refine' kmu_sm ?zzk1 ?zzk2 ?zzk4 ?zzk5 ?zzk6 ?zzk7 ?zzk8 ?zzk9 ?zzk10 ?zzk11 ?zzk12 ?zzk13 ?zzk14 ?_; (case zzk1 => k_asm); (case zzk2 => k_asm); (case zzk4 => k_inst); (case zzk5 => k_is); (case zzk6 => k_is); (case zzk7 => k_is); (case zzk8 => k_is); (case zzk9 => k_is); (case zzk10 => k_is); (case zzk11 => decide +kernel); (case zzk12 => k_get); (case zzk13 => k_is); (case zzk14 => k_handed); k_whole))))) | (k_end; wrow_close) | walk1 | dsimp only | (leave1; try dsimp only) | fail "no step")
  all_goals (try dsimp only)
  all_goals (try (k_unfold; dsimp only))
  have heq : fl.set (Int.toNat 0) (Int.fmod (fl.getD (Int.toNat 0) 0 + 0) 3329) = fl := by
    have h0 := sF 0
    have e1 : Int.fmod (fl.getD 0 0 + 0) 3329 = fl.getD 0 0 := by rw [Int.add_zero, Int.fmod_eq_emod_of_nonneg _ (by decide)]; omega
    rw [show Int.toNat 0 = 0 from rfl, e1]
    apply List.ext_getElem (by simp)
    intro i q1 q2
    rw [List.getElem_set]
    split
    · rename_i q; subst q; simp [List.getD_eq_getElem?_getD, List.getElem?_eq_getElem q2]
    · rfl
  rename IntsAre (List.set _ _ _) _ => hi9
  rw [heq] at hi9
  refine Done.intro (by k_asm) (by k_asm) ?_
  refine' ⟨?sb, _, _, _, rfl, ?g3, hi9, ?m3⟩
  case m3 => (first | walk_at "mm" | k_mem)
  case sb => exact fun p hp => .tail _ (.tail _ hp)
  case g3 => exact ⟨by k_ne, by k_ne, by k_ne, by k_ne, by k_ne, trivial⟩
end
theorem top_YPlusZ : True := by
  w_top off
  trivial
set_option maxRecDepth 100000
set_option maxHeartbeats 8000000
set_option rowWalk.seconds 0
section
variable {w : World} {p : Program} {loose : List Str} {mean : ExcName → Option Value} {mg mb : Str → Option Value} {dp un : Nat} {gd : Option (List Code)} {cn : Str} {cs : Scope} {a : Addr} {ccd : Value} {cl : List (Str × Addr)} {outer : List Env} {A₀ : Around} {base h₀ : Heap} {L : Addr} {m : Str → Option Value} {news : List (Addr × Obj)} {s : Shared} {Q E : Value → Shared → Prop}
theorem addz_use (B : Below A₀ base outer h₀) (F : Fr h₀ L s.heap m) (X : (hdK.heap_1_39 w.params).In h₀) (N : News h₀ L s.heap news) (T : Top p loose mean mg mb h₀) (hk : cs.kind = .function)
   {x dx R dR z f : Addr} {u1 u2 t1 t2 t3 t4 t5 t6 t7 tz : Tok} {fs : List Value} {fl : List Int} {kf : Nat}
   (m1 : (x, instObj 581 dx) ∈ news) (m2 : (dx, polyDict w.params u1 u2 R f) ∈ news) (m3 : (R, instObj 437 dR) ∈ news) (m4 : (dR, ringDict w.params t1 t2 t3 t4 t5 t6 t7 z) ∈ news)
   (m6 : (f, listOf fs.toArray kf) ∈ news) (hF : IntsAre fs fl) (lF : fl.length = 256) (sF : Small fl)
   (hd : dp + 80 < recursionLimit)
   (ret : ∀ x dx c u1 u2 its kk h' tk', IntsAre its fl → Fr h₀ L h' m → News h₀ L h' ((x, instObj 581 dx) :: (dx, polyDict w.params u1 u2 R c) :: (c, listOf its.toArray kk) :: news) → GnNe c news → GnNe dx ((c, listOf its.toArray kk) :: news) → GnNe x ((dx, polyDict w.params u1 u2 R c) :: (c, listOf its.toArray kk) :: news) → s.heap.StaysIn h' → Q (.ref x) {s with heap := h', toks := tk'}) :
   wpAny (model (PySem.Challenge.rw_yi0033_01.row.toRowW.prog) w) (ktrTop dp un gd cn cs L a ccd cl outer) (call (.ref 566) [.ref x, .int 0 tz]) Q E s := by
  have hsub : ∀ p ∈ [(x, instObj 581 dx), (dx, polyDict w.params u1 u2 R f), (R, instObj 437 dR), (dR, ringDict w.params t1 t2 t3 t4 t5 t6 t7 z), (f, listOf fs.toArray kf)], p ∈ news := by
    intro p hp
    rcases List.mem_cons.mp hp with rfl | hp
    · exact m1
    rcases List.mem_cons.mp hp with rfl | hp
    · exact m2
    rcases List.mem_cons.mp hp with rfl | hp
    · exact m3
    rcases List.mem_cons.mp hp with rfl | hp
    · exact m4
    rcases List.mem_cons.mp hp with rfl | hp
    · exact m6
    cases hp
  have N2 := News.sub N hsub
  refine wpAny_call ?_
  k_dflt (refine' code_S (fun g' => Done g' s (MulP w.params R [(x, instObj 581 dx), (dx, polyDict w.params u1 u2 R f), (R, instObj 437 dR), (dR, ringDict w.params t1 t2 t3 t4 t5 t6 t7 z), (f, listOf fs.toArray kf)] fl)) ?k1 ?k2 ?k3 N2 ?k5 ?kA ?kF ?kK ?k6 ?k7 ?k8 ?k9 ?kB ?_ ?fin ?c2 ?c3 ?c4 ?c5; ((case kA => exact rfl); (case kF => first | exact rfl | assumption); (case kK => assumption); (case k1 => k_asm); (case k2 => k_asm); (case k3 => k_asm); (case k5 => k_asm); (case k6 => k_is); (case k7 => k_is); (case k8 => ktr_room); (case k9 => first | exact BindsTo.of_eq rfl | exact binds_K (by k_in) rfl (by k_is) rfl rfl rfl); (case c5 => decide); (case kB => exact locs rfl); (case c2 => exact rfl); (case c3 => exact rfl); (case c4 => exact rfl)))
  case fin =>
    intro v s' d
    obtain ⟨h', tk, led, rfl, k, hl, hs, x, dx, c, u1, u2, its, kk, rfl, g1, g2, g3, n1, n2, n3, i1, e1, e2, e3⟩ := d.pure (fun p hp => (N2 p hp).1) (fun _ _ _ q => q.1)
    have hx := fresh_of hl e1 g1
    have hdx := fresh_of hl e2 g2
    have hc := fresh_of hl e3 g3
    exact ret x dx c u1 u2 its kk h' tk i1 (Fr.stays F k) (fresh_news F hx (fresh_news F hdx (fresh_news F hc (News.stays N k) (hl _ e3).1) (hl _ e2).1) (hl _ e1).1) (fresh_ne N hc) ⟨n3, fresh_ne N hdx⟩ ⟨n1, n2, fresh_ne N hx⟩ k
  intro g' L' h' F' N' B' X' T' l1
  clear N2 N F X ret hsub
  k_lt l1
  with_reducible show wpAny _ _ _ _ _ _
  k_fold
  repeat' (first | (k_unfold; (try dsimp only)) | ((with_reducible refine qb1 ?_); (try dsimp only)) | ((with_reducible refine qb2 ?_); (try dsimp only)) | ((with_reducible refine qa1 ?_); (try dsimp only)) | ((with_reducible refine qa2 ?_); (try dsimp only [List.cons_append, List.nil_append])) | ((with_reducible refine qs1 ?_); (try dsimp only)) | ((with_reducible refine qs2 ?_); (try dsimp only)) | (with_reducible refine qs3 ?_) | (with_reducible refine qs4 ?_) | ((with_reducible refine qc1 ?_); (try dsimp only)) | ((with_reducible refine qu1 ?_); (try dsimp only)) | (with_reducible refine qu2 ?_) | ((with_reducible refine qg1 ?_); (try dsimp only)) | (with_reducible refine qg2 ?_) | ((with_reducible refine qt1 ?_); (try dsimp only)) | ((with_reducible refine qr1 ?_); (try dsimp only)) | (with_reducible refine qb0 ?_) | (with_reducible refine qu0 ?_) | ((with_reducible show wpAny _ _ (spliced (backTo _ (starEach (_ :: _) _))) _ _ _); k_dflt (refine qa0 ?_)) | ((with_reducible show wpAny _ _ (execs (_ :: _) _) _ _ _); first | (k_here; k_gentoks) | (with_reducible refine qs0 ?_)) | ((with_reducible show wpAny _ _ (eval (PySem.Expr.Call (PySem.Expr.Name _ _) _ [] _) _) _ _ _); (fail_if_success (with_reducible show wpAny _ _ (eval _ (compEnvC _ _ _ _)) _ _ _)); k_dflt (refine qc0 ?_)) | ((with_reducible show wpAny _ _ (exec (Stmt.Assign [PySem.Expr.Name _ _] _ _) _) _ _ _); (fail_if_success (with_reducible show wpAny _ _ (exec (Stmt.Assign _ (PySem.Expr.ListComp _ _ _ _) _) _) _ _ _)); k_dflt (refine qg0 ?_)) | ((with_reducible show wpAny _ _ (eval (PySem.Expr.Attribute (PySem.Expr.Name _ _) _ _) _) _ _ _); k_dflt (refine qt0 ?_)) | (with_reducible refine qr0 ?_) | ((with_reducible show wpAny _ _ (call (Value.ref _) _ _) _ _ _); first | (with_reducible (k_here; (with_reducible show wpAny _ _ (call (Value.ref 132) _) _ _ _); k_dflt (refine' addz_low ?zzk1 ?zzk2 ?zzk3 ?zzk4 ?zzk5 ?zzk6 ?zzm1 ?zzm2 ?zzm3 ?zzm4 ?zzm6 ?zzi1 ?zzn1 ?zzs1 ?zzd1 ?_; (case zzk1 => k_asm); (case zzk2 => k_asm); (case zzk3 => k_asm); (case zzk4 => k_asm); (case zzk5 => k_asm); (case zzk6 => first | exact rfl | assumption); (case zzm1 => (first | walk_at "mm" | k_mem)); (case zzm2 => (first | walk_at "mm" | k_mem)); (case zzm3 => (first | walk_at "mm" | k_mem)); (case zzm4 => (first | walk_at "mm" | k_mem)); (case zzm6 => (first | walk_at "mm" | k_mem)); (case zzi1 => assumption); (case zzn1 => assumption); (case zzs1 => assumption); (case zzd1 => ktr_room); k_whole); (intro c9 its9 kk9 h9 tk9 i9 F9 N9 g9 k9; clear k9); (try k_sweep))) | (with_reducible (k_here; (first | (with_reducible show wpAny _ _ (call (Value.ref _) [Value.ref _] (List.zip _ _)) _ _ _) | (with_reducible show wpAny _ _ (call (Value.ref _) [Value.ref _] [(_, Value.bool true)]) _ _ _) | (with_reducible show wpAny _ _ (call (Value.ref _) ([] ++ [Value.ref _]) (List.zip _ _)) _ _ _)); (k_dflt (show wpAny _ _ (call (Value.ref _) [Value.ref _] [(Str.ofString "is_ntt", Value.bool true)]) _ _ _)); k_dflt (refine' mk_use ?zzk1 ?zzk2 ?zzk3 ?zzk4 ?zzk5 ?zzk6 ?zzm1 ?zzm2 ?zzm3 ?zzi1 ?zzn1 ?zzd1 ?_; (case zzk1 => k_asm); (case zzk2 => k_asm); (case zzk3 => k_asm); (case zzk4 => k_asm); (case zzk5 => k_asm); (case zzk6 => first | exact rfl | assumption); (case zzm1 => (first | walk_at "mm" | k_mem)); (case zzm2 => (first | walk_at "mm" | k_mem)); (case zzm3 => (first | walk_at "mm" | k_mem)); (case zzi1 => assumption); (case zzn1 => first | assumption | exact mulP_len _ _ _ | exact addP_len _ _); (case zzd1 => ktr_room); k_whole); (intro x9 dx9 u9 v9 h9 tk9 g9 gg9 F9 N9 k9; clear k9); (try k_sweep)))) | ((with_reducible show wpAny _ _ (callWith _ (Value.ref _) _ _ _) _ _ _); (with_reducible (k_here; k_dflt (refine' callWith_ownKW ?zzk1 ?zzk2 ?zzk3 ?zzk4 ?zzk5 ?_; (case zzk1 => k_in); (case zzk2 => k_inst); (case zzk3 => rfl); (case zzk4 => k_is); (case zzk5 => exact rfl); k_whole)))) | ((with_reducible show wpAny _ _ (setItem (Value.ref _) (Value.int _ _) _) _ _ _); (with_reducible (k_here; (with_reducible show wpAny _ _ (setItem (Value.ref _) (Value.int _ _) _) _ _ _); k_dflt (refine' set_here ?zzk1 ?zzk2 ?zzk3 ?zzk4 ?zzk5 ?zzk6 ?zzk7 ?_; (case zzk1 => k_asm); (case zzk2 => k_asm); (case zzk3 => k_upd); (case zzk4 => decide); (case zzk5 => simp; done); (case zzk6 => decide); (case zzk7 => exact rfl); k_whole); intro h' F' N'; (simp only [List.setIfInBounds_toArray, Int.toNat_zero, Int.reduceToNat, List.set_cons_zero, List.set_cons_succ] at N'); (try k_sweep)))) | ((with_reducible show wpAny _ _ (getMethod (Value.ref _) _ _) _ _ _); (with_reducible (k_here; k_dflt (first | (refine' method_inst ?zzk1 ?zzk2 ?zzk3 ?zzk4 ?zzk5 ?zzk6 ?zzk7 ?_; (case zzk1 => k_asm); (case zzk2 => k_asm); (case zzk3 => k_inst); (case zzk4 => k_is); (case zzk5 => k_is); (case zzk6 => k_is); (case zzk7 => k_get); k_whole) | (refine' kmu_own ?zzk1 ?zzk2 ?zzk3 ?zzk4 ?zzk5 ?_; (case zzk1 => k_asm); (case zzk2 => k_asm); (case zzk3 => k_inst); (case zzk4 => k_is); (case zzk5 => k_is); k_whole) | (refine' kmu_sm ?zzk1 ?zzk2 ?zzk4 ?zzk5 ?zzk6 ?zzk7 ?zzk8 ?zzk9 ?zzk10 ?zzk11 ?zzk12 ?zzk13 ?zzk14 ?_; (case zzk1 => k_asm); (case zzk2 => k_asm); (case zzk4 => k_inst); (case zzk5 => k_is); (case zzk6 => k_is); (case zzk7 => k_is); (case zzk8 => k_is); (case zzk9 => k_is); (case zzk10 => k_is); (case zzk11 => decide +kernel); (case zzk12 => k_get); (case zzk13 => k_is); (case zzk14 => k_handed); k_whole))))) | (k_end; wrow_close) | walk1 | dsimp only | (leave1; try dsimp only) | fail "no step")
  all_goals (try dsimp only)
  all_goals (try (k_unfold; dsimp only))
  refine Done.intro (by k_asm) (by k_asm) ?_
  refine' ⟨?sb, _, _, _, _, _, _, _, rfl, ?g1, ?g2, ?g3, ?n1, ?n2, ?n3, ?i1, ?m1, ?m2, ?m3⟩
  case m1 => (first | walk_at "mm" | k_mem)
  case m2 => (first | walk_at "mm" | k_mem)
  case m3 => (first | walk_at "mm" | k_mem)
  case i1 => assumption
  case sb => exact fun p hp => .tail _ (.tail _ (.tail _ hp))
  case n1 => k_ne
  case n2 => k_ne
  case n3 => k_ne
  case g1 => exact ⟨by k_ne, by k_ne, by k_ne, by k_ne, by k_ne, trivial⟩
  case g2 => exact ⟨by k_ne, by k_ne, by k_ne, by k_ne, by k_ne, trivial⟩
  case g3 => exact ⟨by k_ne, by k_ne, by k_ne, by k_ne, by k_ne, trivial⟩
end
theorem top_YRadd : True := by
  w_top off
  trivial
set_option maxRecDepth 100000
set_option maxHeartbeats 8000000
set_option rowWalk.seconds 0
section
variable {w : World} {p : Program} {loose : List Str} {mean : ExcName → Option Value} {mg mb : Str → Option Value} {dp un : Nat} {gd : Option (List Code)} {cn : Str} {cs : Scope} {a : Addr} {ccd : Value} {cl : List (Str × Addr)} {outer : List Env} {A₀ : Around} {base h₀ : Heap} {L : Addr} {m : Str → Option Value} {news : List (Addr × Obj)} {s : Shared} {Q E : Value → Shared → Prop}
theorem radd_use (B : Below A₀ base outer h₀) (F : Fr h₀ L s.heap m) (X : (hdK.heap_1_39 w.params).In h₀) (N : News h₀ L s.heap news) (T : Top p loose mean mg mb h₀) (hk : cs.kind = .function)
   {x dx R dR z f : Addr} {u1 u2 t1 t2 t3 t4 t5 t6 t7 tz : Tok} {fs : List Value} {fl : List Int} {kf : Nat}
   (m1 : (x, instObj 581 dx) ∈ news) (m2 : (dx, polyDict w.params u1 u2 R f) ∈ news) (m3 : (R, instObj 437 dR) ∈ news) (m4 : (dR, ringDict w.params t1 t2 t3 t4 t5 t6 t7 z) ∈ news)
   (m6 : (f, listOf fs.toArray kf) ∈ news) (hF : IntsAre fs fl) (lF : fl.length = 256) (sF : Small fl)
   (hd : dp + 100 < recursionLimit)
   (ret : ∀ x dx c u1 u2 its kk h' tk', IntsAre its fl → Fr h₀ L h' m → News h₀ L h' ((x, instObj 581 dx) :: (dx, polyDict w.params u1 u2 R c) :: (c, listOf its.toArray kk) :: news) → GnNe c news → GnNe dx ((c, listOf its.toArray kk) :: news) → GnNe x ((dx, polyDict w.params u1 u2 R c) :: (c, listOf its.toArray kk) :: news) → s.heap.StaysIn h' → s.heap.get? x = none → s.heap.get? dx = none → s.heap.get? c = none → Q (.ref x) {s with heap := h', toks := tk'}) :
   wpAny (model (PySem.Challenge.rw_yi0033_01.row.toRowW.prog) w) (ktrTop dp un gd cn cs L a ccd cl outer) (call (.ref 146) [.ref x, .int 0 tz]) Q E s := by
  have hsub : ∀ p ∈ [(x, instObj 581 dx), (dx, polyDict w.params u1 u2 R f), (R, instObj 437 dR), (dR, ringDict w.params t1 t2 t3 t4 t5 t6 t7 z), (f, listOf fs.toArray kf)], p ∈ news := by
    intro p hp
    rcases List.mem_cons.mp hp with rfl | hp
    · exact m1
    rcases List.mem_cons.mp hp with rfl | hp
    · exact m2
    rcases List.mem_cons.mp hp with rfl | hp
    · exact m3
    rcases List.mem_cons.mp hp with rfl | hp
    · exact m4
    rcases List.mem_cons.mp hp with rfl | hp
    · exact m6
    cases hp
  have N2 := News.sub N hsub
  refine wpAny_call ?_
  k_dflt (refine' code_S (fun g' => Done g' s (MulP w.params R [(x, instObj 581 dx), (dx, polyDict w.params u1 u2 R f), (R, instObj 437 dR), (dR, ringDict w.params t1 t2 t3 t4 t5 t6 t7 z), (f, listOf fs.toArray kf)] fl)) ?k1 ?k2 ?k3 N2 ?k5 ?kA ?kF ?kK ?k6 ?k7 ?k8 ?k9 ?kB ?_ ?fin ?c2 ?c3 ?c4 ?c5; ((case kA => exact rfl); (case kF => first | exact rfl | assumption); (case kK => assumption); (case k1 => k_asm); (case k2 => k_asm); (case k3 => k_asm); (case k5 => k_asm); (case k6 => k_is); (case k7 => k_is); (case k8 => ktr_room); (case k9 => first | exact BindsTo.of_eq rfl | exact binds_K (by k_in) rfl (by k_is) rfl rfl rfl); (case c5 => decide); (case kB => exact locs rfl); (case c2 => exact rfl); (case c3 => exact rfl); (case c4 => exact rfl)))
  case fin =>
    intro v s' d
    obtain ⟨h', tk, led, rfl, k, hl, hs, x, dx, c, u1, u2, its, kk, rfl, g1, g2, g3, n1, n2, n3, i1, e1, e2, e3⟩ := d.pure (fun p hp => (N2 p hp).1) (fun _ _ _ q => q.1)
    have hx := fresh_of hl e1 g1
    have hdx := fresh_of hl e2 g2
    have hc := fresh_of hl e3 g3
    exact ret x dx c u1 u2 its kk h' tk i1 (Fr.stays F k) (fresh_news F hx (fresh_news F hdx (fresh_news F hc (News.stays N k) (hl _ e3).1) (hl _ e2).1) (hl _ e1).1) (fresh_ne N hc) ⟨n3, fresh_ne N hdx⟩ ⟨n1, n2, fresh_ne N hx⟩ k hx hdx hc
  intro g' L' h' F' N' B' X' T' l1
  clear N2 N F X ret hsub
  k_lt l1
  with_reducible show wpAny _ _ _ _ _ _
  k_fold
  repeat' (first | (k_unfold; (try dsimp only)) | ((with_reducible refine qb1 ?_); (try dsimp only)) | ((with_reducible refine qb2 ?_); (try dsimp only)) | ((with_reducible refine qa1 ?_); (try dsimp only)) | ((with_reducible refine qa2 ?_); (try dsimp only [List.cons_append, List.nil_append])) | ((with_reducible refine qs1 ?_); (try dsimp only)) | ((with_reducible refine qs2 ?_); (try dsimp only)) | (with_reducible refine qs3 ?_) | (with_reducible refine qs4 ?_) | ((with_reducible refine qc1 ?_); (try dsimp only)) | ((with_reducible refine qu1 ?_); (try dsimp only)) | (with_reducible refine qu2 ?_) | ((with_reducible refine qg1 ?_); (try dsimp only)) | (with_reducible refine qg2 ?_) | ((with_reducible refine qt1 ?_); (try dsimp only)) | ((with_reducible refine qr1 ?_); (try dsimp only)) | (with_reducible refine qb0 ?_) | (with_reducible refine qu0 ?_) | ((with_reducible show wpAny _ _ (spliced (backTo _ (starEach (_ :: _) _))) _ _ _); k_dflt (refine qa0 ?_)) | ((with_reducible show wpAny _ _ (execs (_ :: _) _) _ _ _); first | (k_here; k_gentoks) | (with_reducible refine qs0 ?_)) | ((with_reducible show wpAny _ _ (eval (PySem.Expr.Call (PySem.Expr.Name _ _) _ [] _) _) _ _ _); (fail_if_success (with_reducible show wpAny _ _ (eval _ (compEnvC _ _ _ _)) _ _ _)); k_dflt (refine qc0 ?_)) | ((with_reducible show wpAny _ _ (exec (Stmt.Assign [PySem.Expr.Name _ _] _ _) _) _ _ _); (fail_if_success (with_reducible show wpAny _ _ (exec (Stmt.Assign _ (PySem.Expr.ListComp _ _ _ _) _) _) _ _ _)); k_dflt (refine qg0 ?_)) | ((with_reducible show wpAny _ _ (eval (PySem.Expr.Attribute (PySem.Expr.Name _ _) _ _) _) _ _ _); k_dflt (refine qt0 ?_)) | (with_reducible refine qr0 ?_) | ((with_reducible show wpAny _ _ (call (Value.ref _) _ _) _ _ _); first | (with_reducible (k_here; (with_reducible show wpAny _ _ (call (Value.ref 566) _) _ _ _); k_dflt (refine' addz_use ?zzk1 ?zzk2 ?zzk3 ?zzk4 ?zzk5 ?zzk6 ?zzm1 ?zzm2 ?zzm3 ?zzm4 ?zzm6 ?zzi1 ?zzn1 ?zzs1 ?zzd1 ?_; (case zzk1 => k_asm); (case zzk2 => k_asm); (case zzk3 => k_asm); (case zzk4 => k_asm); (case zzk5 => k_asm); (case zzk6 => first | exact rfl | assumption); (case zzm1 => (first | walk_at "mm" | k_mem)); (case zzm2 => (first | walk_at "mm" | k_mem)); (case zzm3 => (first | walk_at "mm" | k_mem)); (case zzm4 => (first | walk_at "mm" | k_mem)); (case zzm6 => (first | walk_at "mm" | k_mem)); (case zzi1 => assumption); (case zzn1 => assumption); (case zzs1 => assumption); (case zzd1 => ktr_room); k_whole); (intro x9 dx9 c9 u9 v9 its9 kk9 h9 tk9 i9 F9 N9 g9 gg9 ggg9 k9; clear k9); (try k_sweep)))) | ((with_reducible show wpAny _ _ (setItem (Value.ref _) (Value.int _ _) _) _ _ _); (with_reducible (k_here; (with_reducible show wpAny _ _ (setItem (Value.ref _) (Value.int _ _) _) _ _ _); k_dflt (refine' set_here ?zzk1 ?zzk2 ?zzk3 ?zzk4 ?zzk5 ?zzk6 ?zzk7 ?_; (case zzk1 => k_asm); (case zzk2 => k_asm); (case zzk3 => k_upd); (case zzk4 => decide); (case zzk5 => simp; done); (case zzk6 => decide); (case zzk7 => exact rfl); k_whole); intro h' F' N'; (simp only [List.setIfInBounds_toArray, Int.toNat_zero, Int.reduceToNat, List.set_cons_zero, List.set_cons_succ] at N'); (try k_sweep)))) | ((with_reducible show wpAny _ _ (getMethod (Value.ref _) _ _) _ _ _); (with_reducible (k_here; k_dflt (first | (refine' method_inst ?zzk1 ?zzk2 ?zzk3 ?zzk4 ?zzk5 ?zzk6 ?zzk7 ?_; (case zzk1 => k_asm); (case zzk2 => k_asm); (case zzk3 => k_inst); (case zzk4 => k_is); (case zzk5 => k_is); (case zzk6 => k_is); (case zzk7 => k_get); k_whole) | (refine' kmu_own ?zzk1 ?zzk2 ?zzk3 ?zzk4 ?zzk5 ?_; (case zzk1 => k_asm); (case zzk2 => k_asm); (case zzk3 => k_inst); (case zzk4 => k_is); (case zzk5 => k_is); k_whole) | (refine' kmu_sm ?zzk1 ?zzk2 ?zzk4 ?zzk5 ?zzk6 ?zzk7 ?zzk8 ?zzk9 ?zzk10 ?zzk11 ?zzk12 ?zzk13 ?zzk14 ?_; (case zzk1 => k_asm); (case zzk2 => k_asm); (case zzk4 => k_inst); (case zzk5 => k_is); (case zzk6 => k_is); (case zzk7 => k_is); (case zzk8 => k_is); (case zzk9 => k_is); (case zzk10 => k_is); (case zzk11 => decide +kernel); (case zzk12 => k_get); (case zzk13 => k_is); (case zzk14 => k_handed); k_whole))))) | (k_end; wrow_close) | walk1 | dsimp only | (leave1; try dsimp only) | fail "no step")
  all_goals (try dsimp only)
  all_goals (try (k_unfold; dsimp only))
  refine Done.intro (by k_asm) (by k_asm) ?_
  refine' ⟨?sb, _, _, _, _, _, _, _, rfl, ?g1, ?g2, ?g3, ?n1, ?n2, ?n3, ?i1, ?m1, ?m2, ?m3⟩
  case m1 => (first | walk_at "mm" | k_mem)
  case m2 => (first | walk_at "mm" | k_mem)
  case m3 => (first | walk_at "mm" | k_mem)
  case i1 => assumption
  case sb => exact fun p hp => .tail _ (.tail _ (.tail _ hp))
  case n1 => k_ne
  case n2 => k_ne
  case n3 => k_ne
  case g1 => exact ⟨by k_ne, by k_ne, by k_ne, by k_ne, by k_ne, trivial⟩
  case g2 => exact ⟨by k_ne, by k_ne, by k_ne, by k_ne, by k_ne, trivial⟩
  case g3 => exact ⟨by k_ne, by k_ne, by k_ne, by k_ne, by k_ne, trivial⟩
end
theorem top_YPlus : True := by
  w_top off
  trivial
set_option maxRecDepth 100000
set_option maxHeartbeats 8000000
set_option rowWalk.seconds 0
section
variable {w : World} {p : Program} {loose : List Str} {mean : ExcName → Option Value} {mg mb : Str → Option Value} {dp un : Nat} {gd : Option (List Code)} {cn : Str} {cs : Scope} {a : Addr} {ccd : Value} {cl : List (Str × Addr)} {outer : List Env} {A₀ : Around} {base h₀ : Heap} {L : Addr} {m : Str → Option Value} {news : List (Addr × Obj)} {s : Shared} {Q E : Value → Shared → Prop}
theorem add_use (B : Below A₀ base outer h₀) (F : Fr h₀ L s.heap m) (X : (hdK.heap_1_39 w.params).In h₀) (N : News h₀ L s.heap news) (T : Top p loose mean mg mb h₀) (hk : cs.kind = .function)
   {x dx y dy R dR z f g : Addr} {u1 u2 v1 v2 t1 t2 t3 t4 t5 t6 t7 : Tok} {fs gs : List Value} {fl gl : List Int} {kf kg : Nat}
   (m1 : (x, instObj 581 dx) ∈ news) (m2 : (dx, polyDict w.params u1 u2 R f) ∈ news) (m8 : (y, instObj 581 dy) ∈ news) (m9 : (dy, polyDict w.params v1 v2 R g) ∈ news) (m3 : (R, instObj 437 dR) ∈ news) (m4 : (dR, ringDict w.params t1 t2 t3 t4 t5 t6 t7 z) ∈ news)
   (m6 : (f, listOf fs.toArray kf) ∈ news) (m7 : (g, listOf gs.toArray kg) ∈ news) (hF : IntsAre fs fl) (hG : IntsAre gs gl) (lF : fl.length = 256) (lG : gl.length = 256)
   (hd : dp + 80 < recursionLimit)
   (ret : ∀ x dx c u1 u2 its kk h' tk', IntsAre its (addP fl gl) → Fr h₀ L h' m → News h₀ L h' ((x, instObj 581 dx) :: (dx, polyDict w.params u1 u2 R c) :: (c, listOf its.toArray kk) :: news) → GnNe c news → GnNe dx ((c, listOf its.toArray kk) :: news) → GnNe x ((dx, polyDict w.params u1 u2 R c) :: (c, listOf its.toArray kk) :: news) → s.heap.StaysIn h' → s.heap.get? x = none → s.heap.get? dx = none → s.heap.get? c = none → Q (.ref x) {s with heap := h', toks := tk'}) :
   wpAny (model (PySem.Challenge.rw_yi0033_01.row.toRowW.prog) w) (ktrTop dp un gd cn cs L a ccd cl outer) (call (.ref 566) [.ref x, .ref y]) Q E s := by
  have hsub : ∀ p ∈ [(x, instObj 581 dx), (dx, polyDict w.params u1 u2 R f), (y, instObj 581 dy), (dy, polyDict w.params v1 v2 R g), (R, instObj 437 dR), (dR, ringDict w.params t1 t2 t3 t4 t5 t6 t7 z), (f, listOf fs.toArray kf), (g, listOf gs.toArray kg)], p ∈ news := by
    intro p hp
    rcases List.mem_cons.mp hp with rfl | hp
    · exact m1
    rcases List.mem_cons.mp hp with rfl | hp
    · exact m2
    rcases List.mem_cons.mp hp with rfl | hp
    · exact m8
    rcases List.mem_cons.mp hp with rfl | hp
    · exact m9
    rcases List.mem_cons.mp hp with rfl | hp
    · exact m3
    rcases List.mem_cons.mp hp with rfl | hp
    · exact m4
    rcases List.mem_cons.mp hp with rfl | hp
    · exact m6
    rcases List.mem_cons.mp hp with rfl | hp
    · exact m7
    cases hp
  have N2 := News.sub N hsub
  refine wpAny_call ?_
  k_dflt (refine' code_S (fun g' => Done g' s (MulP w.params R [(x, instObj 581 dx), (dx, polyDict w.params u1 u2 R f), (y, instObj 581 dy), (dy, polyDict w.params v1 v2 R g), (R, instObj 437 dR), (dR, ringDict w.params t1 t2 t3 t4 t5 t6 t7 z), (f, listOf fs.toArray kf), (g, listOf gs.toArray kg)] (addP fl gl))) ?k1 ?k2 ?k3 N2 ?k5 ?kA ?kF ?kK ?k6 ?k7 ?k8 ?k9 ?kB ?_ ?fin ?c2 ?c3 ?c4 ?c5; ((case kA => exact rfl); (case kF => first | exact rfl | assumption); (case kK => assumption); (case k1 => k_asm); (case k2 => k_asm); (case k3 => k_asm); (case k5 => k_asm); (case k6 => k_is); (case k7 => k_is); (case k8 => ktr_room); (case k9 => first | exact BindsTo.of_eq rfl | exact binds_K (by k_in) rfl (by k_is) rfl rfl rfl); (case c5 => decide); (case kB => exact locs rfl); (case c2 => exact rfl); (case c3 => exact rfl); (case c4 => exact rfl)))
  case fin =>
    intro v s' d
    obtain ⟨h', tk, led, rfl, k, hl, hs, x, dx, c, u1, u2, its, kk, rfl, g1, g2, g3, n1, n2, n3, i1, e1, e2, e3⟩ := d.pure (fun p hp => (N2 p hp).1) (fun _ _ _ q => q.1)
    have hx := fresh_of hl e1 g1
    have hdx := fresh_of hl e2 g2
    have hc := fresh_of hl e3 g3
    exact ret x dx c u1 u2 its kk h' tk i1 (Fr.stays F k) (fresh_news F hx (fresh_news F hdx (fresh_news F hc (News.stays N k) (hl _ e3).1) (hl _ e2).1) (hl _ e1).1) (fresh_ne N hc) ⟨n3, fresh_ne N hdx⟩ ⟨n1, n2, fresh_ne N hx⟩ k hx hdx hc
  intro g' L' h' F' N' B' X' T' l1
  clear N2 N F X ret hsub
  k_lt l1
  with_reducible show wpAny _ _ _ _ _ _
  k_fold
  repeat' (first | (k_unfold; (try dsimp only)) | ((with_reducible refine qb1 ?_); (try dsimp only)) | ((with_reducible refine qb2 ?_); (try dsimp only)) | ((with_reducible refine qa1 ?_); (try dsimp only)) | ((with_reducible refine qa2 ?_); (try dsimp only [List.cons_append, List.nil_append])) | ((with_reducible refine qs1 ?_); (try dsimp only)) | ((with_reducible refine qs2 ?_); (try dsimp only)) | (with_reducible refine qs3 ?_) | (with_reducible refine qs4 ?_) | ((with_reducible refine qc1 ?_); (try dsimp only)) | ((with_reducible refine qu1 ?_); (try dsimp only)) | (with_reducible refine qu2 ?_) | ((with_reducible refine qg1 ?_); (try dsimp only)) | (with_reducible refine qg2 ?_) | ((with_reducible refine qt1 ?_); (try dsimp only)) | ((with_reducible refine qr1 ?_); (try dsimp only)) | (with_reducible refine qb0 ?_) | (with_reducible refine qu0 ?_) | ((with_reducible show wpAny _ _ (spliced (backTo _ (starEach (_ :: _) _))) _ _ _); k_dflt (refine qa0 ?_)) | ((with_reducible show wpAny _ _ (execs (_ :: _) _) _ _ _); first | (k_here; k_gentoks) | (with_reducible refine qs0 ?_)) | ((with_reducible show wpAny _ _ (eval (PySem.Expr.Call (PySem.Expr.Name _ _) _ [] _) _) _ _ _); (fail_if_success (with_reducible show wpAny _ _ (eval _ (compEnvC _ _ _ _)) _ _ _)); k_dflt (refine qc0 ?_)) | ((with_reducible show wpAny _ _ (exec (Stmt.Assign [PySem.Expr.Name _ _] _ _) _) _ _ _); (fail_if_success (with_reducible show wpAny _ _ (exec (Stmt.Assign _ (PySem.Expr.ListComp _ _ _ _) _) _) _ _ _)); k_dflt (refine qg0 ?_)) | ((with_reducible show wpAny _ _ (eval (PySem.Expr.Attribute (PySem.Expr.Name _ _) _ _) _) _ _ _); k_dflt (refine qt0 ?_)) | (with_reducible refine qr0 ?_) | ((with_reducible show wpAny _ _ (call (Value.ref _) _ _) _ _ _); first | (with_reducible (k_here; (with_reducible show wpAny _ _ (call (Value.ref 132) _) _ _ _); k_dflt (refine' add_low ?zzk1 ?zzk2 ?zzk3 ?zzk4 ?zzk5 ?zzk6 ?zzm1 ?zzm2 ?zzm8 ?zzm9 ?zzm3 ?zzm4 ?zzm6 ?zzm7 ?zzi1 ?zzi2 ?zzn1 ?zzn2 ?zzd1 ?_; (case zzk1 => k_asm); (case zzk2 => k_asm); (case zzk3 => k_asm); (case zzk4 => k_asm); (case zzk5 => k_asm); (case zzk6 => first | exact rfl | assumption); (case zzm1 => (first | walk_at "mm" | k_mem)); (case zzm2 => (first | walk_at "mm" | k_mem)); (case zzm8 => (first | walk_at "mm" | k_mem)); (case zzm9 => (first | walk_at "mm" | k_mem)); (case zzm3 => (first | walk_at "mm" | k_mem)); (case zzm4 => (first | walk_at "mm" | k_mem)); (case zzm6 => (first | walk_at "mm" | k_mem)); (case zzm7 => (first | walk_at "mm" | k_mem)); (case zzi1 => assumption); (case zzi2 => assumption); (case zzn1 => assumption); (case zzn2 => assumption); (case zzd1 => ktr_room); k_whole); (intro c9 its9 kk9 h9 tk9 i9 F9 N9 g9 k9; clear k9); (try k_sweep))) | (with_reducible (k_here; (first | (with_reducible show wpAny _ _ (call (Value.ref _) [Value.ref _] (List.zip _ _)) _ _ _) | (with_reducible show wpAny _ _ (call (Value.ref _) [Value.ref _] [(_, Value.bool true)]) _ _ _) | (with_reducible show wpAny _ _ (call (Value.ref _) ([] ++ [Value.ref _]) (List.zip _ _)) _ _ _)); (k_dflt (show wpAny _ _ (call (Value.ref _) [Value.ref _] [(Str.ofString "is_ntt", Value.bool true)]) _ _ _)); k_dflt (refine' mk_use ?zzk1 ?zzk2 ?zzk3 ?zzk4 ?zzk5 ?zzk6 ?zzm1 ?zzm2 ?zzm3 ?zzi1 ?zzn1 ?zzd1 ?_; (case zzk1 => k_asm); (case zzk2 => k_asm); (case zzk3 => k_asm); (case zzk4 => k_asm); (case zzk5 => k_asm); (case zzk6 => first | exact rfl | assumption); (case zzm1 => (first | walk_at "mm" | k_mem)); (case zzm2 => (first | walk_at "mm" | k_mem)); (case zzm3 => (first | walk_at "mm" | k_mem)); (case zzi1 => assumption); (case zzn1 => first | assumption | exact mulP_len _ _ _ | exact addP_len _ _); (case zzd1 => ktr_room); k_whole); (intro x9 dx9 u9 v9 h9 tk9 g9 gg9 F9 N9 k9; clear k9); (try k_sweep)))) | ((with_reducible show wpAny _ _ (callWith _ (Value.ref _) _ _ _) _ _ _); (with_reducible (k_here; k_dflt (refine' callWith_ownKW ?zzk1 ?zzk2 ?zzk3 ?zzk4 ?zzk5 ?_; (case zzk1 => k_in); (case zzk2 => k_inst); (case zzk3 => rfl); (case zzk4 => k_is); (case zzk5 => exact rfl); k_whole)))) | ((with_reducible show wpAny _ _ (setItem (Value.ref _) (Value.int _ _) _) _ _ _); (with_reducible (k_here; (with_reducible show wpAny _ _ (setItem (Value.ref _) (Value.int _ _) _) _ _ _); k_dflt (refine' set_here ?zzk1 ?zzk2 ?zzk3 ?zzk4 ?zzk5 ?zzk6 ?zzk7 ?_; (case zzk1 => k_asm); (case zzk2 => k_asm); (case zzk3 => k_upd); (case zzk4 => decide); (case zzk5 => simp; done); (case zzk6 => decide); (case zzk7 => exact rfl); k_whole); intro h' F' N'; (simp only [List.setIfInBounds_toArray, Int.toNat_zero, Int.reduceToNat, List.set_cons_zero, List.set_cons_succ] at N'); (try k_sweep)))) | ((with_reducible show wpAny _ _ (getMethod (Value.ref _) _ _) _ _ _); (with_reducible (k_here; k_dflt (first | (refine' method_inst ?zzk1 ?zzk2 ?zzk3 ?zzk4 ?zzk5 ?zzk6 ?zzk7 ?_; (case zzk1 => k_asm); (case zzk2 => k_asm); (case zzk3 => k_inst); (case zzk4 => k_is); (case zzk5 => k_is); (case zzk6 => k_is); (case zzk7 => k_get); k_whole) | (refine' kmu_own ?zzk1 ?zzk2 ?zzk3 ?zzk4 ?zzk5 ?_; (case zzk1 => k_asm); (case zzk2 => k_asm); (case zzk3 => k_inst); (case zzk4 => k_is); (case zzk5 => k_is); k_whole) | (refine' kmu_sm ?zzk1 ?zzk2 ?zzk4 ?zzk5 ?zzk6 ?zzk7 ?zzk8 ?zzk9 ?zzk10 ?zzk11 ?zzk12 ?zzk13 ?zzk14 ?_; (case zzk1 => k_asm); (case zzk2 => k_asm); (case zzk4 => k_inst); (case zzk5 => k_is); (case zzk6 => k_is); (case zzk7 => k_is); (case zzk8 => k_is); (case zzk9 => k_is); (case zzk10 => k_is); (case zzk11 => decide +kernel); (case zzk12 => k_get); (case zzk13 => k_is); (case zzk14 => k_handed); k_whole))))) | (k_end; wrow_close) | walk1 | dsimp only | (leave1; try dsimp only) | fail "no step")
  all_goals (try dsimp only)
  all_goals (try (k_unfold; dsimp only))
  refine Done.intro (by k_asm) (by k_asm) ?_
  refine' ⟨?sb, _, _, _, _, _, _, _, rfl, ?g1, ?g2, ?g3, ?n1, ?n2, ?n3, ?i1, ?m1, ?m2, ?m3⟩
  case m1 => (first | walk_at "mm" | k_mem)
  case m2 => (first | walk_at "mm" | k_mem)
  case m3 => (first | walk_at "mm" | k_mem)
  case i1 => assumption
  case sb => exact fun p hp => .tail _ (.tail _ (.tail _ hp))
  case n1 => k_ne
  case n2 => k_ne
  case n3 => k_ne
  case g1 => exact ⟨by k_ne, by k_ne, by k_ne, by k_ne, by k_ne, by k_ne, by k_ne, by k_ne, trivial⟩
  case g2 => exact ⟨by k_ne, by k_ne, by k_ne, by k_ne, by k_ne, by k_ne, by k_ne, by k_ne, trivial⟩
  case g3 => exact ⟨by k_ne, by k_ne, by k_ne, by k_ne, by k_ne, by k_ne, by k_ne, by k_ne, trivial⟩
end
set_option maxRecDepth 100000
set_option maxHeartbeats 8000000
set_option rowWalk.seconds 0
section
variable {w : World} {p : Program} {loose : List Str} {mean : ExcName → Option Value} {mg mb : Str → Option Value} {dp un : Nat} {gd : Option (List Code)} {cn : Str} {cs : Scope} {a : Addr} {ccd : Value} {cl : List (Str × Addr)} {outer : List Env} {A₀ : Around} {base h₀ : Heap} {L : Addr} {m : Str → Option Value} {news : List (Addr × Obj)} {s : Shared} {Q E : Value → Shared → Prop}
theorem small_of_all {c : List Int} (h : ∀ x ∈ c, 0 ≤ x ∧ x < 3329) : Small c := fun k => by
  rw [List.getD_eq_getElem?_getD]
  cases q : c[k]? with
  | none => exact ⟨by decide, by decide⟩
  | some x => exact h x (List.mem_of_getElem? q)
theorem mulP_all (a b : List Int) : ∀ n, ∀ x ∈ mulP a b n, 0 ≤ x ∧ x < 3329
  | 0, x, h => by rw [mulP_zero] at h; cases h
  | n + 1, x, h => by
    rw [mulP_succ] at h
    rcases List.mem_append.mp h with h | h
    · exact mulP_all a b n x h
    · have f : ∀ z : Int, 0 ≤ Int.fmod z 3329 ∧ Int.fmod z 3329 < 3329 := fun z => ⟨Int.fmod_nonneg_of_pos _ (by decide), Int.fmod_lt_of_pos _ (by decide)⟩
      unfold quad bm0 bm1 at h
      simp only [List.mem_cons, List.not_mem_nil, or_false] at h
      rcases h with rfl | rfl | rfl | rfl <;> exact f _
theorem mulP_small (a b : List Int) (n : Nat) : Small (mulP a b n) := small_of_all (mulP_all a b n)
def Ext (hr h : Heap) : Prop := ∀ b o, hr.get? b = some o → ∃ o', h.get? b = some o'
theorem Ext.none {hr h : Heap} {x : Addr} (e : Ext hr h) (n : h.get? x = none) : hr.get? x = none := by
  cases q : hr.get? x with
  | none => rfl
  | some o => obtain ⟨o', e'⟩ := e x o q; rw [e'] at n; cases n
def FVs (P : Params) (R : Addr) (p0 p1 : List Int) (i : Nat) (v : Value) (hr h : Heap) : Prop := PolyAt P R (if i = 0 then p0 else p1) v hr h ∧ Ext hr h
def TotAt (P : Params) (R : Addr) (cL : List Int) (v : Value) (s0 h : Heap) (off : List Addr) : Prop :=
  ∃ x dx c u1 u2 its kk, v = .ref x ∧ s0.get? x = none ∧ s0.get? dx = none ∧ s0.get? c = none ∧ x ∉ off ∧ dx ∉ off ∧ c ∉ off ∧ @Ne Nat dx x ∧ @Ne Nat c x ∧ @Ne Nat c dx ∧ h.get? x = some (instObj 581 dx) ∧ h.get? dx = some (polyDict P u1 u2 R c) ∧ h.get? c = some (listOf its.toArray kk) ∧ IntsAre its cL
theorem fresh_off {h₀ h : Heap} {L a : Addr} {m : Str → Option Value} (F : Fr h₀ L h m) (e : h.get? a = none) : a ≠ L ∧ h₀.get? a = none := by
  refine ⟨fun q => ?_, ?_⟩
  · obtain ⟨oL, _, _, hL, _⟩ := F.ns
    rw [← q, e] at hL; cases hL
  · cases z : h₀.get? a with
    | none => rfl
    | some o => have := F.keep _ _ z; rw [e] at this; cases this
theorem off_of {h : Heap} {x : Addr} {off : List Addr} (e : h.get? x = none) (ho : ∀ b ∈ off, ∃ o, h.get? b = some o) : x ∉ off := fun q => by
  obtain ⟨o, e'⟩ := ho x q
  rw [e] at e'; cases e'
theorem sum_use (B : Below A₀ base outer h₀) (F : Fr h₀ L s.heap m) (X : (hdK.heap_1_39 w.params).In h₀) (N : News h₀ L s.heap news) (T : Top p loose mean mg mb h₀) (hk : cs.kind = .function)
   {R dR z ag C I : Addr} {gi : Nat} {t1 t2 t3 t4 t5 t6 t7 : Tok} {p0 p1 : List Int}
   (m1 : (R, instObj 437 dR) ∈ news) (m2 : (dR, ringDict w.params t1 t2 t3 t4 t5 t6 t7 z) ∈ news) (l0 : p0.length = 256) (l1 : p1.length = 256) (s0 : Small p0)
   (hst : GenAtH (PySem.Challenge.rw_yi0033_01.row.toRowW.prog) w (ktrTop dp un gd cn cs L a ccd cl outer).in1 ag gi C (List.range C) [I] 2 (FVs w.params R p0 p1) 0 s)
   (haC : ag ≠ C) (haf : ag ∉ List.range C) (hfp : ∀ b ∈ ag :: C :: List.range C, b < s.heap.objs.size) (hcs : cStatics ∈ List.range C) (hcC : cStatics ≠ C) (hcw : cStatics ∉ [I]) (hIr : I ∈ List.range C)
   (xC : C ≠ L ∧ h₀.get? C = none ∧ ∀ p ∈ news, p.1 ≠ C) (xI : I ≠ L ∧ h₀.get? I = none ∧ ∀ p ∈ news, p.1 ≠ I) (eC : ∃ o, s.heap.get? C = some o) (eI : ∃ o, s.heap.get? I = some o)
   (hd : dp + 110 < recursionLimit)
   (ret : ∀ x dx c u1 u2 its kk h' tk' gs, IntsAre its (addP p0 p1) → Fr h₀ L h' m → News h₀ L h' ((x, instObj 581 dx) :: (dx, polyDict w.params u1 u2 R c) :: (c, listOf its.toArray kk) :: news) → s.heap.get? x = none → s.heap.get? dx = none → s.heap.get? c = none → @Ne Nat dx x → @Ne Nat c x → @Ne Nat c dx → GenOnlyQ gi s.gens gs → Q (.ref x) {s with heap := h', toks := tk', gens := gs}) :
   wpAny (model (PySem.Challenge.rw_yi0033_01.row.toRowW.prog) w) (ktrTop dp un gd cn cs L a ccd cl outer) (call (.builtin "sum") [.ref ag]) Q E s := by
  have kF : ∀ h, (∀ b o, b ∉ C :: [I] → s.heap.get? b = some o → h.get? b = some o) → Fr h₀ L h m := fun h k => Fr.of_keeps (as := C :: [I]) F (fun b o e hb => k b o hb e) fun q hq => by
    rcases List.mem_cons.mp hq with rfl | hq
    · exact ⟨xC.1, xC.2.1⟩
    · rw [List.mem_singleton.mp hq]; exact ⟨xI.1, xI.2.1⟩
  have kN : ∀ h, (∀ b o, b ∉ C :: [I] → s.heap.get? b = some o → h.get? b = some o) → News h₀ L h news := fun h k => News.of_keeps (as := C :: [I]) N (fun b o e hb => k b o hb e) fun q hq hm => by
    rcases List.mem_cons.mp hm with e | hm
    · exact xC.2.2 q hq e
    · exact xI.2.2 q hq (List.mem_singleton.mp hm)
  refine call_sumH (n₀ := 2) (F := FVs w.params R p0 p1) (C := C) (g := gi) (fp := List.range C) (wr := [I]) rfl haC haf (fun b hb => by rw [List.mem_singleton.mp hb]; exact hIr) (by ktr_room) hcs hcC hcw hfp
    (fun S i tot h => i = 0 ∨ (0 < i ∧ TotAt w.params R (if i = 1 then p0 else addP p0 p1) tot s.heap h (S :: C :: [I]))) hst ?hF ?hJ0 ?hstep ?hJ ?hQ
  case hF => rintro i v hr h ⟨⟨x, _, _, _, _, _, _, rfl, _⟩, _⟩; exact ⟨x, rfl⟩
  case hJ0 => exact fun _ _ _ => .inl rfl
  case hJ =>
    rintro S hS i tot h h' (rfl | ⟨hi, x, dx, c, u1, u2, its, kk, rfl, f1, f2, f3, g1, g2, g3, n1, n2, n3, e1, e2, e3, hI⟩) hSh k
    · exact .inl rfl
    · exact .inr ⟨hi, x, dx, c, u1, u2, its, kk, rfl, f1, f2, f3, g1, g2, g3, n1, n2, n3, k _ _ g1 e1, k _ _ g2 e2, k _ _ g3 e3, hI⟩
  case hQ =>
    rintro S tot h tk gs (h0 | ⟨_, x, dx, c, u1, u2, its, kk, rfl, f1, f2, f3, g1, g2, g3, n1, n2, n3, e1, e2, e3, hI⟩) k hg
    · cases h0
    · have F1 := kF h k
      have N1 := kN h k
      refine ret x dx c u1 u2 its kk h tk gs hI F1 (fun q hq => ?_) f1 f2 f3 n1 n2 n3 hg
      rcases List.mem_cons.mp hq with rfl | hq
      · exact ⟨e1, fresh_off F f1⟩
      rcases List.mem_cons.mp hq with rfl | hq
      · exact ⟨e2, fresh_off F f2⟩
      rcases List.mem_cons.mp hq with rfl | hq
      · exact ⟨e3, fresh_off F f3⟩
      · exact N1 q hq
  case hstep =>
    rintro S hS i tot v hr h tk gs E' hi ⟨⟨y, dy, cy, u1, u2, its, kk, rfl, f1, f2, f3, n1, n2, n3, e1, e2, e3, hI⟩, hx⟩ hexr hSr hJr hJh h0 k hSh
    have F1 := kF h k
    have N1 := kN h k
    have eC' : ∃ o, h.get? C = some o := by
      obtain ⟨o, e⟩ := eC
      obtain ⟨o, e⟩ := hexr _ _ e
      exact hx _ _ e
    have eI' : ∃ o, h.get? I = some o := by
      obtain ⟨o, e⟩ := eI
      obtain ⟨o, e⟩ := hexr _ _ e
      exact hx _ _ e
    have hoff : ∀ b ∈ S :: C :: [I], ∃ o, h.get? b = some o := by
      intro b hb
      rcases List.mem_cons.mp hb with rfl | hb
      · exact hSh
      rcases List.mem_cons.mp hb with rfl | hb
      · exact eC'
      · rw [List.mem_singleton.mp hb]; exact eI'
    have hsh : Ext s.heap h := fun b o e => by
      obtain ⟨o, e⟩ := hexr _ _ e
      exact hx _ _ e
    have N2 : News h₀ L h ((y, instObj 581 dy) :: (dy, polyDict w.params u1 u2 R cy) :: (cy, listOf its.toArray kk) :: news) := fun q hq => by
      rcases List.mem_cons.mp hq with rfl | hq
      · exact ⟨e1, fresh_off F (Ext.none hexr f1)⟩
      rcases List.mem_cons.mp hq with rfl | hq
      · exact ⟨e2, fresh_off F (Ext.none hexr f2)⟩
      rcases List.mem_cons.mp hq with rfl | hq
      · exact ⟨e3, fresh_off F (Ext.none hexr f3)⟩
      · exact N1 q hq
    have tl : ∀ p ∈ news, p ∈ ((y, instObj 581 dy) :: (dy, polyDict w.params u1 u2 R cy) :: (cy, listOf its.toArray kk) :: news) := fun p hp => .tail _ (.tail _ (.tail _ hp))
    have hi' : i = 0 ∨ i = 1 := by omega
    rcases hi' with rfl | rfl
    · obtain ⟨t, rfl⟩ := h0 rfl
      rw [if_pos rfl] at hI
      k_dflt (refine' zero_plus (f := 566) (fr := 146) (s := { s with heap := h, toks := tk, gens := gs }) F1 X (InstAt.of_news N2 (.head _) (.tail _ (.head _))) ?c1 ?c2 ?c3 ?c4 ?c5 ?_)
      case c1 => k_is
      case c2 => k_is
      case c3 => k_is
      case c4 => k_is
      case c5 => k_is
      k_dflt (refine' radd_use (s := { s with heap := h, toks := tk, gens := gs }) B F1 X N2 T hk ?m1 ?m2 ?m3 ?m4 ?m6 hI l0 s0 ?d1 ?ret)
      case m1 => exact .head _
      case m2 => exact .tail _ (.head _)
      case m3 => exact tl _ m1
      case m4 => exact tl _ m2
      case m6 => exact .tail _ (.tail _ (.head _))
      case d1 => ktr_room
      case ret =>
        intro x dx c v1 v2 its' kk' h' tk' hI' F' N' g1 g2 g3 k' q1 q2 q3
        dsimp only [PySem.W.CmpBack]
        exact ⟨h', tk', x, rfl, rfl, k', .inr ⟨Nat.one_pos, x, dx, c, v1, v2, its', kk', rfl, Ext.none hsh q1, Ext.none hsh q2, Ext.none hsh q3, off_of q1 hoff, off_of q2 hoff, off_of q3 hoff, g3.1, g3.2.1, g2.1, (N' _ (.head _)).1, (N' _ (.tail _ (.head _))).1, (N' _ (.tail _ (.tail _ (.head _)))).1, hI'⟩⟩
    · rcases hJh with hJh | ⟨_, x0, dx0, c0, w1, w2, its0, kk0, rfl, a1, a2, a3, b1, b2, b3, d1, d2, d3, r1, r2, r3, hI0⟩
      · cases hJh
      rw [if_neg (by decide)] at hI
      rw [if_pos rfl] at hI0
      have N3 : News h₀ L h ((x0, instObj 581 dx0) :: (dx0, polyDict w.params w1 w2 R c0) :: (c0, listOf its0.toArray kk0) :: (y, instObj 581 dy) :: (dy, polyDict w.params u1 u2 R cy) :: (cy, listOf its.toArray kk) :: news) := fun q hq => by
        rcases List.mem_cons.mp hq with rfl | hq
        · exact ⟨r1, fresh_off F a1⟩
        rcases List.mem_cons.mp hq with rfl | hq
        · exact ⟨r2, fresh_off F a2⟩
        rcases List.mem_cons.mp hq with rfl | hq
        · exact ⟨r3, fresh_off F a3⟩
        · exact N2 q hq
      have tl3 : ∀ p ∈ news, p ∈ ((x0, instObj 581 dx0) :: (dx0, polyDict w.params w1 w2 R c0) :: (c0, listOf its0.toArray kk0) :: (y, instObj 581 dy) :: (dy, polyDict w.params u1 u2 R cy) :: (cy, listOf its.toArray kk) :: news) := fun p hp => .tail _ (.tail _ (.tail _ (tl p hp)))
      have Iy : InstAt h y (instObj 581 dy) 581 (some (polyDict w.params u1 u2 R cy)) := InstAt.of_news N2 (.head _) (.tail _ (.head _))
      k_dflt (refine' binop_K (f := 566) (s := { s with heap := h, toks := tk, gens := gs }) F1 X (InstAt.of_news N3 (.head _) (.tail _ (.head _))) (InstAt.type Iy) ?c5 ?c6 ?c7 ?_)
      case c5 => k_is
      case c6 => k_is
      case c7 => k_is
      k_dflt (refine' add_use (s := { s with heap := h, toks := tk, gens := gs }) B F1 X N3 T hk ?m1 ?m2 ?m8 ?m9 ?m3 ?m4 ?m6 ?m7 hI0 hI l0 l1 ?d1 ?ret)
      case m1 => exact .head _
      case m2 => exact .tail _ (.head _)
      case m8 => exact .tail _ (.tail _ (.tail _ (.head _)))
      case m9 => exact .tail _ (.tail _ (.tail _ (.tail _ (.head _))))
      case m3 => exact tl3 _ m1
      case m4 => exact tl3 _ m2
      case m6 => exact .tail _ (.tail _ (.head _))
      case m7 => exact .tail _ (.tail _ (.tail _ (.tail _ (.tail _ (.head _)))))
      case d1 => ktr_room
      case ret =>
        intro x dx c v1 v2 its' kk' h' tk' hI' F' N' g1 g2 g3 k' q1 q2 q3
        dsimp only [PySem.W.CmpBack]
        exact ⟨h', tk', x, rfl, rfl, k', .inr ⟨Nat.succ_pos _, x, dx, c, v1, v2, its', kk', rfl, Ext.none hsh q1, Ext.none hsh q2, Ext.none hsh q3, off_of q1 hoff, off_of q2 hoff, off_of q3 hoff, g3.1, g3.2.1, g2.1, (N' _ (.head _)).1, (N' _ (.tail _ (.head _))).1, (N' _ (.tail _ (.tail _ (.head _)))).1, by rw [if_neg (by decide)]; exact hI'⟩⟩
end
set_option maxRecDepth 100000
set_option maxHeartbeats 4000000
section
variable {prog : Program} {w : World} {A : Around} {E : Value → Shared → Prop} {s : Shared} {env : Env} {h₀ : Heap} {L : Addr} {m : Str → Option Value}
abbrev cellObj (v : Option Value) : Obj := { cls := .type "cell", data := .cell v }
abbrev dictNone : Obj := { cls := .type "dict", data := .dict #[] }
theorem newEnv_cell1 {M : Model} {scope : Scope} {cl : List (Str × Addr)} {x : Str} {Q : Env → Shared → Prop} (hcl : ∀ n, cellsFrom n scope.names cl = (x, n) :: cl) (hpc : ∀ h, pushCells h scope.names = h.push (cellObj none))
    (h : Q { scope := scope, locals := s.heap.objs.size, globals := env.globals, cells := (x, s.heap.objs.size + 1) :: cl, qual := env.qual, func := none, code := env.code, frame := env.frame, builtins := env.builtins } { s with heap := (s.heap.push dictNone).push (cellObj none) }) :
    wpAny M A (newFunctionEnv scope env.globals cl [] env.qual none .none (some env)) Q E s := by
  simp only [newFunctionEnv, Option.isSome_some, if_true]
  refine wpAny_bind (wpAny_alloc ?_)
  refine wpAny_bind (wpAny_layCells _ (fun name kind cells => by cases hkc : kind == NameKind.cell <;> simp [hkc]) _ _ _ _ ?_)
  rw [hcl, hpc, show ({ s with heap := s.heap.push dictNone } : Shared).heap.objs.size = s.heap.objs.size + 1 from Heap.size_push ..]
  refine wpAny_bind ?_
  rw [List.forIn_nil]
  exact wpAny_pure (wpAny_pure h)

/-- the rest of a comprehension over range(1) whose name is a cell, where the iterable stands -/
def CompOne (prog : Program) (w : World) (A : Around) (h₀ : Heap) (L : Addr) (m : Str → Option Value) (env : Env) (elt : PySem.Expr) (x : Str) (scope : Scope) (cl : List (Str × Addr)) (Q : Value → Shared → Prop) (xv : Value) (s₁ : Shared) : Prop :=
  ∃ r t u v news, xv = .ref r ∧ A.handled = none ∧ IsRange s₁.heap r 0 1 1 t u v ∧ Fr h₀ L s₁.heap m ∧ News h₀ L s₁.heap news ∧
    ∀ (I D C c : Addr) (t : Tok) (h : Heap) (tk : Nat) (E' : Value → Shared → Prop), (∀ p ∈ news, p.1 < I) → I < D → D < C → C < c → Fr h₀ L h m → News h₀ L h ((c, cellObj (some (.int 0 t))) :: (C, dictNone) :: (D, LCg.lst []) :: (I, itR 1 0) :: news) →
      wpAny (model prog w) A (eval elt (compEnvC scope ((x, c) :: cl) C env)) (fun y s₃ => ∃ h₃ tk₃ g₃ news₃, s₃ = { s₁ with heap := h₃, toks := tk₃, gens := g₃ } ∧ Fr h₀ L h₃ m ∧ News h₀ L h₃ ((c, cellObj (some (.int 0 t))) :: (C, dictNone) :: (D, LCg.lst []) :: (I, itR 1 0) :: news₃) ∧
        GnNe I news₃ ∧ GnNe D news₃ ∧ GnNe C news₃ ∧ ∀ h₄ tk₄, Fr h₀ L h₄ m → News h₀ L h₄ ((D, LCg.lst [y]) :: news₃) → Q (.ref D) { s₁ with heap := h₄, toks := tk₄, gens := g₃ }) E' { s₁ with heap := h, toks := tk }
theorem storeName_cellX {M : Model} {env : Env} {name : Str} {c : Addr} {v₀ : Option Value} {v : Value} {Q : Unit → Shared → Prop} (hk : env.scope.kind = .function) (hl : env.kindOf name = some .cell)
    (hc : env.cells.lookup name = some c) (hv : s.heap.get? c = some (cellObj v₀))
    (h : ∀ h', h'.get? c = some (cellObj (some v)) → Heap.SameBut c s.heap h' → Q () { s with heap := h' }) : wpAny M A (storeName env name v) Q E s := by
  unfold storeName
  simp only [hl, hk]
  refine wpAny_bind (wpAny_cellOf hc ?_)
  unfold cellSet
  refine wpAny_bind (wpAny_load hv ?_)
  dsimp only
  refine wpAny_update hv (h _ ?_ (Heap.SameBut.update ..))
  have z := Heap.get?_update_self (fun o : Obj => { o with data := Data.cell (some v) }) hv rfl
  exact z
theorem gn_ne {a : Addr} : ∀ {l : List (Addr × Obj)}, GnNe a l → ∀ p ∈ l, p.1 ≠ a
  | [], _, _, h => nomatch h
  | p :: r, g, q, hq => by
    rcases List.mem_cons.mp hq with h | hq
    · rw [h]; exact g.1
    · exact gn_ne g.2 q hq
theorem comp1 {elt iter : PySem.Expr} {x : Str} {px : Pos} {scope : Scope} {cl : List (Str × Addr)} {pos : Pos} {Q : Value → Shared → Prop} (_F₀ : Fr h₀ L s.heap m)
    (hclos : closureFor scope env = pure cl) (hcl : ∀ n, cellsFrom n scope.names cl = (x, n) :: cl) (hpc : ∀ h, pushCells h scope.names = h.push (cellObj none)) (hkind : scope.kind = .function)
    (hnames : ∀ y ∈ scope.names, y.2 = .local → scope.names.lookup y.1 = some .local) (hx : ∀ c C, (compEnvC scope ((x, c) :: cl) C env).kindOf x = some .cell)
    (h : wpAny (model prog w) A (eval iter env) (CompOne prog w A h₀ L m env elt x scope cl Q) E s)
    (hs : ∀ x, foldedSetIterable iter env x = pure x := by intro _; rfl) :
    wpAny (model prog w) A (eval (.ListComp elt [⟨.Name x px, iter, [], 0⟩] scope pos) env) Q E s := by
  rw [eval_ListComp]
  refine wpAny_comprehension_free (use := none) rfl hs hclos hkind hnames (wpAny_mono h (fun xv s₁ h₁ => ?_) fun _ _ e => e)
  obtain ⟨r, t, u, v, news, rfl, hh, hr, F, N, helt⟩ := h₁
  refine wpAny_pyIter_range hr (by decide) ?_
  refine wpAny_newObj_type ?_
  refine newEnv_cell1 hcl hpc ?_
  dsimp only
  generalize hI : s₁.heap.objs.size = I
  have hD : (s₁.heap.push { cls := .type "range_iterator", data := .fields #[rawInt 0, rawInt (Builtin.Range.rangeSize 0 1 1), rawInt 1] }).objs.size = I + 1 := by rw [Heap.size_push, hI]
  rw [hD]
  have hC : ((s₁.heap.push { cls := .type "range_iterator", data := .fields #[rawInt 0, rawInt (Builtin.Range.rangeSize 0 1 1), rawInt 1] }).push { cls := .type "list", dict := none, data := .seq ([] : List Value).toArray }).objs.size = I + 1 + 1 := by rw [Heap.size_push, hD]
  rw [hC]
  generalize hH : (((s₁.heap.push { cls := .type "range_iterator", data := .fields #[rawInt 0, rawInt (Builtin.Range.rangeSize 0 1 1), rawInt 1] }).push { cls := .type "list", dict := none, data := .seq ([] : List Value).toArray }).push dictNone).push (cellObj none) = H
  have up : ∀ b o, s₁.heap.get? b = some o → H.get? b = some o := fun b o e => hH ▸ Heap.get?_push_of_some _ (Heap.get?_push_of_some _ (Heap.get?_push_of_some _ (Heap.get?_push_of_some _ e)))
  have eI : H.get? I = some (itR 0 1) := hH ▸ Heap.get?_push_of_some _ (Heap.get?_push_of_some _ (Heap.get?_push_of_some _ (hI ▸ Heap.get?_push_size _ rfl)))
  have eD : H.get? (I + 1) = some (LCg.lst []) := hH ▸ Heap.get?_push_of_some _ (Heap.get?_push_of_some _ (hD ▸ Heap.get?_push_size _ rfl))
  have eC : H.get? (I + 1 + 1) = some dictNone := hH ▸ Heap.get?_push_of_some _ (hC ▸ Heap.get?_push_size _ rfl)
  have ec : H.get? (I + 1 + 1 + 1) = some (cellObj none) := by
    have z : (((s₁.heap.push { cls := .type "range_iterator", data := .fields #[rawInt 0, rawInt (Builtin.Range.rangeSize 0 1 1), rawInt 1] }).push { cls := .type "list", dict := none, data := .seq ([] : List Value).toArray }).push dictNone).objs.size = I + 1 + 1 + 1 := by rw [Heap.size_push, hC]
    exact hH ▸ z ▸ Heap.get?_push_size _ rfl
  have fresh : ∀ a, I ≤ a → s₁.heap.get? a = none := fun a ha => by
    cases e : s₁.heap.get? a with
    | none => rfl
    | some o' => exact absurd (Heap.lt_size e) (Nat.not_lt.mpr (hI ▸ ha))
  have fI := fresh I (Nat.le_refl _)
  have fD := fresh (I + 1) (by omega)
  have fC := fresh (I + 1 + 1) (by omega)
  have fc := fresh (I + 1 + 1 + 1) (by omega)
  have lI : ∀ p ∈ news, p.1 < I := fun p hp => hI ▸ Heap.lt_size (N p hp).1
  have off : ∀ a, I ≤ a → a ≠ L ∧ h₀.get? a = none := fun a ha => by
    refine ⟨fun q => ?_, ?_⟩
    · obtain ⟨oL, _, _, hL, _⟩ := F.ns
      rw [← q, fresh a ha] at hL; cases hL
    · cases e : h₀.get? a with
      | none => rfl
      | some o => have := F.keep _ _ e; rw [fresh a ha] at this; cases this
  have offN : ∀ a, I ≤ a → GnNe a news := fun a ha => fresh_ne N (fresh a ha)
  generalize hc : I + 1 + 1 + 1 = c at ec fc ⊢
  have hcI : I ≤ c := by omega
  have hCI : I ≤ I + 1 + 1 := by omega
  have hDI : I ≤ I + 1 := by omega
  have d1 : I < I + 1 := by omega
  have d2 : I + 1 < I + 1 + 1 := by omega
  have d3 : I + 1 + 1 < c := by omega
  generalize hCe : I + 1 + 1 = C at eC fC hCI d2 d3 ⊢
  generalize hDe : I + 1 = D at eD fD hDI d1 d2 ⊢
  clear hc hCe hDe hD hC hH
  have W : Walks prog w A I [I] [I] 1 (fun i v => i < 1 ∧ ∃ t, v = .int (0 + i * 1) t) (fun i h => IsRangeIter h I (0 + (i : Nat) * 1) (((1 : Nat) : Int) - (i : Nat)) 1) := (Walks.range hh I 0 1 1).bound
  have hF : Fr h₀ L H m := F.keeps up
  have hN : News h₀ L H news := N.grown up
  have loop : codeAny (model prog w) A (.compLoop (.ListComp elt [⟨.Name x px, iter, [], 0⟩] scope pos) 0 (.ref I) (.ref D) (compEnvC scope ((x, c) :: cl) C env)) (compPost (model prog w) A E none Q (.ref D) C) { s₁ with heap := H } := by
    refine codeAny_compLoop_list (fun n s' => (n = 1 ∧ s' = { s₁ with heap := H }) ∨ (n = 0 ∧ ∃ h₃ tk₃ g₃ news₃ y t, s' = { s₁ with heap := h₃, toks := tk₃, gens := g₃ } ∧ Fr h₀ L h₃ m ∧ News h₀ L h₃ ((c, cellObj (some (.int 0 t))) :: (C, dictNone) :: (D, LCg.lst [y]) :: (I, itR 1 0) :: news₃) ∧
        GnNe I news₃ ∧ GnNe D news₃ ∧ GnNe C news₃ ∧ ∀ h₄ tk₄, Fr h₀ L h₄ m → News h₀ L h₄ ((D, LCg.lst [y]) :: news₃) → Q (.ref D) { s₁ with heap := h₄, toks := tk₄, gens := g₃ })) ?_ 1 (.inl ⟨rfl, rfl⟩)
    rintro n s' (⟨rfl, rfl⟩ | ⟨rfl, h₃, tk₃, g₃, news₃, y, t, rfl, F₃, N₃, gI, gD, gC, fin⟩)
    · refine W.item 0 _ _ _ Nat.one_pos (by show H.get? I = some _; rw [eI]; rfl) fun vv h₁ tk₁ hP hst hk => ?_
      obtain ⟨_, t, rfl⟩ := hP
      have hk' : ∀ b o, b ≠ I → H.get? b = some o → h₁.get? b = some o := fun b o hb e => hk b o (by simpa using hb) e
      have eI₁ : h₁.get? I = some (itR 1 0) := hst
      refine wpAny_assign_Name (storeName_cellX (by exact hkind) (hx c C) (show List.lookup x ((x, c) :: cl) = some c by simp [List.lookup]) (hk' c _ (by omega) ec) fun h₂ ec₂ hs₂ => ?_)
      have k₂ : ∀ b o, b ≠ c → h₁.get? b = some o → h₂.get? b = some o := fun b o hb e => (hs₂.2 b hb).trans e
      have k : ∀ b o, b ≠ I → b ≠ c → H.get? b = some o → h₂.get? b = some o := fun b o hb hb' e => k₂ b o hb' (hk' b o hb e)
      have F₂ : Fr h₀ L h₂ m := by
        obtain ⟨o, es, ep, ho, rr⟩ := hF.ns
        refine ⟨⟨o, es, ep, k _ _ (off I (Nat.le_refl _)).1.symm (off c hcI).1.symm ho, rr⟩, fun b ob e => k b ob (fun q => ?_) (fun q => ?_) (hF.keep b ob e), hF.above⟩
        · rw [q, (off I (Nat.le_refl _)).2] at e; cases e
        · rw [q, (off c hcI).2] at e; cases e
      have N₂ : News h₀ L h₂ ((c, cellObj (some (.int 0 t))) :: (C, dictNone) :: (D, LCg.lst []) :: (I, itR 1 0) :: news) := fun p hp => by
        rcases List.mem_cons.mp hp with rfl | hp
        · refine ⟨?_, off c hcI⟩
          rw [ec₂]; simp
        rcases List.mem_cons.mp hp with rfl | hp
        · exact ⟨k C _ (by omega) (by omega) eC, off C hCI⟩
        rcases List.mem_cons.mp hp with rfl | hp
        · exact ⟨k D _ (by omega) (by omega) eD, off D hDI⟩
        rcases List.mem_cons.mp hp with rfl | hp
        · exact ⟨k₂ I _ (by omega) eI₁, off I (Nat.le_refl _)⟩
        · have z := lI p hp
          exact ⟨k p.1 _ (Nat.ne_of_lt z) (Nat.ne_of_lt (Nat.lt_of_lt_of_le z hcI)) (hN p hp).1, (hN p hp).2⟩
      refine wpAny_mono (helt I D C c t h₂ tk₁ _ lI d1 d2 d3 F₂ N₂) (fun y s₃ h₃ => ?_) fun _ _ e => e
      obtain ⟨h₃, tk₃, g₃, news₃, rfl, F₃, N₃, gI, gD, gC, fin⟩ := h₃
      have eD₃ := (N₃ (D, LCg.lst []) (.tail _ (.tail _ (.head _)))).1
      refine append_at eD₃ (fun h₄ hs₄ hD₄ => ⟨0, Nat.one_pos, .inr ⟨rfl, h₄, tk₃, g₃, news₃, y, t, rfl, ?_, ?_, gI, gD, gC, fin⟩⟩) (by size_fits)
      · exact F₃.change hs₄ (off D hDI).1 (off D hDI).2
      · have kk : ∀ b o, b ≠ D → h₃.get? b = some o → h₄.get? b = some o := fun b o hb e => (hs₄.2 b hb).trans e
        intro p hp
        rcases List.mem_cons.mp hp with rfl | hp
        · exact ⟨kk c _ (by omega) (N₃ _ (.head _)).1, off c hcI⟩
        rcases List.mem_cons.mp hp with rfl | hp
        · exact ⟨kk C _ (by omega) (N₃ _ (.tail _ (.head _))).1, off C hCI⟩
        rcases List.mem_cons.mp hp with rfl | hp
        · exact ⟨hD₄, off D hDI⟩
        rcases List.mem_cons.mp hp with rfl | hp
        · exact ⟨kk I _ (by omega) (N₃ _ (.tail _ (.tail _ (.tail _ (.head _))))).1, off I (Nat.le_refl _)⟩
        · have z := N₃ p (.tail _ (.tail _ (.tail _ (.tail _ hp))))
          exact ⟨kk p.1 _ (gn_ne gD p hp) z.1, z.2⟩
    · refine W.done _ _ _ (by show h₃.get? I = some _; exact (N₃ _ (.tail _ (.tail _ (.tail _ (.head _))))).1) fun h₅ tk₅ hk₅ => ?_
      have hk' : ∀ b o, b ≠ I → h₃.get? b = some o → h₅.get? b = some o := fun b o hb e => hk₅ b o (by simpa using hb) e
      have F₅ : Fr h₀ L h₅ m := by
        obtain ⟨o, es, ep, ho, rr⟩ := F₃.ns
        refine ⟨⟨o, es, ep, hk' _ _ (off I (Nat.le_refl _)).1.symm ho, rr⟩, fun b ob e => hk' b ob (fun q => ?_) (F₃.keep b ob e), F₃.above⟩
        rw [q, (off I (Nat.le_refl _)).2] at e; cases e
      have eC₅ := hk' C _ (by omega) (N₃ _ (.tail _ (.head _))).1
      refine ⟨fun _ => none, ⟨_, _, _, eC₅, rfl, ?_, fun _ => rfl⟩, fun h₆ hs₆ => fin h₆ tk₅ (F₅.change hs₆ (off C hCI).1 (off C hCI).2) fun p hp => ?_⟩
      · intro e he; cases he; contradiction
      · have kk : ∀ b o, b ≠ C → h₅.get? b = some o → h₆.get? b = some o := fun b o hb e => (hs₆.2 b hb).trans e
        rcases List.mem_cons.mp hp with rfl | hp
        · exact ⟨kk D _ (by omega) (hk' D _ (by omega) (N₃ _ (.tail _ (.tail _ (.head _)))).1), off D hDI⟩
        · have z := N₃ p (.tail _ (.tail _ (.tail _ (.tail _ hp))))
          exact ⟨kk p.1 _ (gn_ne gC p hp) (hk' p.1 _ (gn_ne gI p hp) z.1), z.2⟩
  exact codeAny_compStart_list loop (W.self 0 _ _ _ (by show H.get? I = some _; rw [eI]; rfl) loop)
end
set_option maxRecDepth 100000
set_option maxHeartbeats 4000000
/-- what a called def that makes generators leaves -/
def DoneG (g : Heap) (s : Shared) (P : Value → Heap → List (Addr × Obj) → Prop) (v : Value) (s' : Shared) : Prop :=
  ∃ L' h' tk gens' m' news', s' = { s with heap := h', toks := tk, gens := gens' } ∧ Fr g L' h' m' ∧ News g L' h' news' ∧ (AllBare s.gens → AllBare gens') ∧ P v h' news'
theorem DoneG.intro {g : Heap} {s s₁ : Shared} {P : Value → Heap → List (Addr × Obj) → Prop} {v : Value} {L' : Addr} {h' : Heap} {tk : Nat} {gens' : Array GenState} {m' : Str → Option Value} {news' : List (Addr × Obj)}
    (F : Fr g L' h' m') (N : News g L' h' news') (b : AllBare s.gens → AllBare gens') (p : P v h' news') (e : s₁ = { s with heap := h', toks := tk, gens := gens' } := by rfl) : DoneG g s P v s₁ :=
  ⟨L', h', tk, gens', m', news', e, F, N, b, p⟩
theorem DoneG.tab {s : Shared} {sub : List (Addr × Obj)} {P : Addr} {t0 : Obj} {R : Value → Heap → List (Addr × Obj) → Prop} {v : Value} {s' : Shared} (d : DoneG (hideAll s.heap (((P, t0) :: sub).map (·.1))) s R v s')
    (hs : ∀ p ∈ (P, t0) :: sub, s.heap.get? p.1 = some p.2) (same : ∀ v h led, R v h led → (∀ p ∈ sub, p ∈ led) ∧ ∃ ps', TriplesOk ps'.toList ∧ (P, tabObj ps') ∈ led) :
    ∃ h' tk gens' led ps', s' = { s with heap := h', toks := tk, gens := gens' } ∧ KeepsBut [P] s.heap h' ∧ TriplesOk ps'.toList ∧ h'.get? P = some (tabObj ps') ∧ (∀ p ∈ led, h'.get? p.1 = some p.2 ∧ (p.1 ∈ ((P, t0) :: sub).map (·.1) ∨ s.heap.get? p.1 = none)) ∧ (AllBare s.gens → AllBare gens') ∧ R v h' led := by
  obtain ⟨L', h', tk, gens', m', led, e, F, N, b, p⟩ := d
  obtain ⟨hsub, ps', ht, hP⟩ := same _ _ _ p
  refine ⟨h', tk, gens', led, ps', e, fun c o hc hn => ?_, ht, (N _ hP).1, fun q hq => ⟨(N q hq).1, ?_⟩, b, p⟩
  · by_cases hm : c ∈ ((P, t0) :: sub).map (·.1)
    · obtain ⟨q, hq, rfl⟩ := List.mem_map.mp hm
      rw [hs q hq] at hc
      cases hc
      rcases List.mem_cons.mp hq with rfl | hq
      · exact absurd (List.mem_singleton.mpr rfl) hn
      · exact (N q (hsub q hq)).1
    · exact F.keep c o (hideAll_get _ hc hm)
  · by_cases ha : q.1 ∈ ((P, t0) :: sub).map (·.1)
    · exact .inl ha
    · refine .inr ?_
      cases hz : s.heap.get? q.1 with
      | none => rfl
      | some o => have := (N q hq).2.2; rw [hideAll_get _ hz ha] at this; cases this
theorem UpdF.memU {d : Addr} {o : Obj} {l : List (Addr × Obj)} {g : Obj → List (Addr × Obj)} (U : UpdF d o l g) : (d, o) ∈ l := by
  obtain ⟨a, b, e, _⟩ := U.split
  rw [e]; simp
theorem UpdF.neq {d c : Addr} {o o' : Obj} {l : List (Addr × Obj)} {g : Obj → List (Addr × Obj)} (U : UpdF d o l g) (h : (c, o') ∈ l) (hne : o'.cls ≠ o.cls) : @Ne Nat c d := by
  obtain ⟨pre, post, rfl, _, n1, n2⟩ := U.split
  rcases List.mem_append.mp h with h | h
  · exact n1 _ h
  · rcases List.mem_cons.mp h with h | h
    · exact absurd (congrArg (fun p : Addr × Obj => p.2.cls) h) hne
    · exact n2 _ h
/-- frame and ledger behind a call that turns the table alone -/
theorem tab_fr {h₀ h h' : Heap} {L P : Addr} {m : Str → Option Value} {news : List (Addr × Obj)} {o : Obj} (F : Fr h₀ L h m) (N : News h₀ L h news) (hm : (P, o) ∈ news) (k : KeepsBut [P] h h') : Fr h₀ L h' m :=
  Fr.of_keeps F k fun a ha => by rw [List.mem_singleton.mp ha]; exact (N _ hm).2
theorem tab_news {h₀ h h' : Heap} {L P : Addr} {news : List (Addr × Obj)} {o o' : Obj} {g : Obj → List (Addr × Obj)} (U : UpdF P o news g) (N : News h₀ L h news) (k : KeepsBut [P] h h') (e : h'.get? P = some o') : News h₀ L h' (g o') :=
  updF_news U N (fun b q hb hq => k b q hq (by simpa using hb)) e
theorem gen_fr {h₀ h h1 h2 : Heap} {L C I : Addr} {m : Str → Option Value} (F0 : Fr h₀ L h m) (fC : h.get? C = none) (fI : h.get? I = none) (F1 : Fr h₀ L h1 m) (k : ∀ b o, b ∉ C :: [I] → h1.get? b = some o → h2.get? b = some o) : Fr h₀ L h2 m := by
  refine Fr.of_keeps (as := C :: [I]) F1 (fun b o e hb => k b o hb e) fun a ha => ?_
  have fa : h.get? a = none := by
    rcases List.mem_cons.mp ha with rfl | ha
    · exact fC
    · rw [List.mem_singleton.mp ha]; exact fI
  refine ⟨fun q => ?_, ?_⟩
  · obtain ⟨oL, _, _, hL, _⟩ := F0.ns
    rw [← q, fa] at hL; cases hL
  · cases e : h₀.get? a with
    | none => rfl
    | some o => have := F0.keep _ _ e; rw [fa] at this; cases this
theorem gen_news {h₀ h h1 h2 : Heap} {L C I P : Addr} {o o' : Obj} {news : List (Addr × Obj)} {g : Obj → List (Addr × Obj)} (U : UpdF P o news g) (N0 : News h₀ L h news) (fC : h.get? C = none) (fI : h.get? I = none) (N1 : News h₀ L h1 (g o'))
    (k : ∀ b o, b ∉ C :: [I] → h1.get? b = some o → h2.get? b = some o) : News h₀ L h2 (g o') := by
  intro q hq
  have z := N1 q hq
  refine ⟨k _ _ (fun hm => ?_) z.1, z.2⟩
  have fq : h.get? q.1 = none := by
    rcases List.mem_cons.mp hm with e | hm
    · rw [e]; exact fC
    · rw [List.mem_singleton.mp hm]; exact fI
  have : ∃ q' ∈ news, q'.1 = q.1 := by
    obtain ⟨pre, post, e1, e2, _, _⟩ := U.split
    rw [e2] at hq
    rw [e1]
    rcases List.mem_append.mp hq with hq | hq
    · exact ⟨q, List.mem_append_left _ hq, rfl⟩
    · rcases List.mem_cons.mp hq with rfl | hq
      · exact ⟨(P, o), List.mem_append_right _ (.head _), rfl⟩
      · exact ⟨q, List.mem_append_right _ (.tail _ hq), rfl⟩
  obtain ⟨q', hq', e⟩ := this
  have w := (N0 q' hq').1
  rw [e, fq] at w; cases w
theorem gn_upd {P d : Addr} {o o' : Obj} {news : List (Addr × Obj)} {g : Obj → List (Addr × Obj)} (U : UpdF P o news g) (n : GnNe d news) : GnNe d (g o') := by
  obtain ⟨pre, post, rfl, hg, _, _⟩ := U.split
  rw [hg]
  refine gnNe_of fun p hp => ?_
  have all := gn_ne n
  rcases List.mem_append.mp hp with hp | hp
  · exact all p (List.mem_append_left _ hp)
  · rcases List.mem_cons.mp hp with rfl | hp
    · exact all (P, o) (List.mem_append_right _ (.head _))
    · exact all p (List.mem_append_right _ (.tail _ hp))
set_option maxRecDepth 100000
set_option maxHeartbeats 4000000
section
variable {prog : Program} {w : World} {A : Around} {E : Value → Shared → Prop} {s : Shared} {env : Env} {h₀ : Heap}
/-- the end of the one turn of a for -/
def ForOneEnd (h₀ : Heap) (L : Addr) (s₁ : Shared) (I ax : Addr) (oI lo : Obj) (Q : Flow → Shared → Prop) (f : Flow) (s₃ : Shared) : Prop :=
  f = .next ∧ ∃ h₃ tk₃ g₃ m₃ news₃, s₃ = { s₁ with heap := h₃, toks := tk₃, gens := g₃ } ∧ Fr h₀ L h₃ m₃ ∧ News h₀ L h₃ ((I, oI) :: (ax, lo) :: news₃) ∧ GnNe I news₃ ∧
    ∀ h₄ tk₄, Fr h₀ L h₄ m₃ → News h₀ L h₄ ((ax, lo) :: news₃) → Q .next { s₁ with heap := h₄, toks := tk₄, gens := g₃ }
/-- the rest of a for over a list of one item, where the iterable stands -/
def ForOne (prog : Program) (w : World) (A : Around) (h₀ : Heap) (env : Env) (x : Str) (body : List Stmt) (Q : Flow → Shared → Prop) (xv : Value) (s₁ : Shared) : Prop :=
  ∃ ax v kk m news, xv = .ref ax ∧ A.handled = none ∧ Fr h₀ env.locals s₁.heap m ∧ News h₀ env.locals s₁.heap news ∧ (ax, listOf #[v] kk) ∈ news ∧
    ∀ (I : Addr) (oI : Obj) (h : Heap) (tk : Nat) (E' : Value → Shared → Prop), (∀ p ∈ news, p.1 < I) → Fr h₀ env.locals h (fun y => if y = x then some v else m y) → News h₀ env.locals h ((I, oI) :: news) →
      wpAny (model prog w) A (execs body env) (ForOneEnd h₀ env.locals s₁ I ax oI (listOf #[v] kk) Q) E' { s₁ with heap := h, toks := tk }
theorem For1 {Q : Flow → Shared → Prop} {x : Str} {px pos : Pos} {iter : PySem.Expr} {body : List Stmt} (hx : env.kindOf x = some .local)
    (hp : (env.scope.kind == .class || (env.scope.kind == .module && env.locals != env.globals)) = false)
    (h : wpAny (model prog w) A (eval iter env) (ForOne prog w A h₀ env x body Q) E s)
    (hs : ∀ x, foldedSetIterable iter env x = pure x := by intro _; rfl) :
    wpAny (model prog w) A (exec (.For (.Name x px) iter body [] pos) env) Q E s := by
  refine wpAny_For (wpAny_mono h (fun xv s₁ h₁ => ?_) fun _ _ e => e) hs
  obtain ⟨ax, v, kk, m, news, rfl, hh, F, N, hm, hbody⟩ := h₁
  have hl : s₁.heap.IsList ax #[v] := News.isList N hm
  have hlt : ax < s₁.heap.objs.size := by obtain ⟨_, e, _⟩ := hl; exact Heap.lt_size e
  refine wpAny_pyIter_list hl ?_
  generalize hI : s₁.heap.objs.size = I at hlt ⊢
  have hne : ax ≠ I := Nat.ne_of_lt hlt
  have W := Walks.list (prog := prog) (w := w) (A := A) hh I ax hne #[v]
  generalize hH : s₁.heap.push { cls := .type "list_iterator", data := .fields #[.ref ax, .int 0 0] } = H
  have up : ∀ b o, s₁.heap.get? b = some o → H.get? b = some o := fun b o e => hH ▸ Heap.get?_push_of_some _ e
  have fI : s₁.heap.get? I = none := by
    cases e : s₁.heap.get? I with
    | none => rfl
    | some o' => exact absurd (Heap.lt_size e) (Nat.not_lt.mpr (Nat.le_of_eq hI))
  have offI : I ≠ env.locals ∧ h₀.get? I = none := by
    refine ⟨fun q => ?_, ?_⟩
    · obtain ⟨oL, _, _, hL, _⟩ := F.ns
      rw [← q, fI] at hL; cases hL
    · cases e : h₀.get? I with
      | none => rfl
      | some o => have := F.keep _ _ e; rw [fI] at this; cases this
  have lI : ∀ p ∈ news, p.1 < I := fun p hp => hI ▸ Heap.lt_size (N p hp).1
  have hst : H.IsListIter I ax 0 ∧ H.IsList ax #[v] := ⟨⟨_, hH ▸ hI ▸ Heap.get?_push_size _ rfl, rfl, rfl⟩, hl.at fun o e => up _ _ e⟩
  have hF : Fr h₀ env.locals H m := F.keeps up
  have hN : News h₀ env.locals H news := N.grown up
  clear hH hI
  refine codeAny_forLoop_any (R := fun r s' => match r with | .ok f => Q f s' | .error e => cameBackBy (model prog w) A env E e s')
    (fun n s' => (n = 1 ∧ s' = { s₁ with heap := H }) ∨ (n = 0 ∧ ∃ oI h₃ tk₃ g₃ m₃ news₃, s' = { s₁ with heap := h₃, toks := tk₃, gens := g₃ } ∧ Fr h₀ env.locals h₃ m₃ ∧ News h₀ env.locals h₃ ((I, oI) :: (ax, listOf #[v] kk) :: news₃) ∧ GnNe I news₃ ∧ h₃.IsListIter I ax 1 ∧
      ∀ h₄ tk₄, Fr h₀ env.locals h₄ m₃ → News h₀ env.locals h₄ ((ax, listOf #[v] kk) :: news₃) → Q .next { s₁ with heap := h₄, toks := tk₄, gens := g₃ })) ?_ 1 (.inl ⟨rfl, rfl⟩)
  rintro n s' (⟨rfl, rfl⟩ | ⟨rfl, oI, h₃, tk₃, g₃, m₃, news₃, rfl, F₃, N₃, gI, hit, fin⟩)
  · refine W.item 0 _ _ _ Nat.one_pos hst fun vv h₁ tk₁ hP hst₁ hk => ?_
    obtain rfl : v = vv := by simpa using hP
    have hk' : ∀ b o, b ≠ I → H.get? b = some o → h₁.get? b = some o := fun b o hb e => hk b o (by simpa using hb) e
    obtain ⟨oI, eI, hIr⟩ := hst₁.1
    refine wpAny_of_eq (rfl : letOwnedTupleGo (.Name x px) (.ref I) v = pure ()) ?_
    have F₁ : Fr h₀ env.locals h₁ m := by
      obtain ⟨o, es, ep, ho, rr⟩ := hF.ns
      refine ⟨⟨o, es, ep, hk' _ _ offI.1.symm ho, rr⟩, fun b ob e => hk' b ob (fun q => ?_) (hF.keep b ob e), hF.above⟩
      rw [q, offI.2] at e; cases e
    have N₁ : News h₀ env.locals h₁ ((I, oI) :: news) := fun p hp => by
      rcases List.mem_cons.mp hp with rfl | hp
      · exact ⟨eI, offI⟩
      · exact ⟨hk' p.1 _ (Nat.ne_of_lt (lI p hp)) (hN p hp).1, (hN p hp).2⟩
    refine wpAny_assign_Name (wpAny_storeName_local hx F₁.ns (fun h₂ hn₂ hs₂ => ?_) hp)
    have hL₀ : h₀.get? env.locals = none := Heap.get?_none_of_le F₁.above
    have F₂ : Fr h₀ env.locals h₂ (fun y => if y = x then some v else m y) := ⟨hn₂, fun b o e => hs₂.extBut b o (fun q => by rw [q, hL₀] at e; cases e) (F₁.keep b o e), F₁.above⟩
    have N₂ : News h₀ env.locals h₂ ((I, oI) :: news) := fun p hp => ⟨hs₂.extBut _ _ (N₁ p hp).2.1 (N₁ p hp).1, (N₁ p hp).2⟩
    refine wpAny_mono (hbody I oI h₂ _ _ lI F₂ N₂) (fun f s₃ h₃ => ?_) fun _ _ e => e
    obtain ⟨rfl, h₃, tk₃, g₃, m₃, news₃, rfl, F₃, N₃, gI, fin⟩ := h₃
    exact ⟨0, Nat.one_pos, .inr ⟨rfl, oI, h₃, tk₃, g₃, m₃, news₃, rfl, F₃, N₃, gI, ⟨oI, (N₃ _ (.head _)).1, hIr⟩, fin⟩⟩
  · have hl₃ : h₃.IsList ax #[v] := News.isList N₃ (.tail _ (.head _))
    refine W.done _ _ _ ⟨hit, hl₃⟩ fun h₅ tk₅ hk₅ => wpAny_execs_nil ?_
    have hk' : ∀ b o, b ≠ I → h₃.get? b = some o → h₅.get? b = some o := fun b o hb e => hk₅ b o (by simpa using hb) e
    refine fin h₅ tk₅ ?_ fun p hp => ?_
    · obtain ⟨o, es, ep, ho, rr⟩ := F₃.ns
      refine ⟨⟨o, es, ep, hk' _ _ offI.1.symm ho, rr⟩, fun b ob e => hk' b ob (fun q => ?_) (F₃.keep b ob e), F₃.above⟩
      rw [q, offI.2] at e; cases e
    · have z := N₃ p (.tail _ hp)
      refine ⟨hk' p.1 _ ?_ z.1, z.2⟩
      rcases List.mem_cons.mp hp with rfl | hp
      · exact hne
      · exact gn_ne gI p hp
end
set_option maxRecDepth 100000
set_option maxHeartbeats 4000000
section
variable {prog : Program} {w : World} {A A₀ : Around} {E : Value → Shared → Prop} {s : Shared} {base h₀ : Heap} {outer : List Env} {L : Addr} {m : Str → Option Value} {K : Frag} {p : Program} {loose : List Str} {mean : ExcName → Option Value} {mg mb : Str → Option Value} {news : List (Addr × Obj)} {envF env : Env} {c P : Addr} {ps : Array Value} {g : Obj → List (Addr × Obj)}
theorem gen_list {elt iter : PySem.Expr} {x : Str} {px pos : Pos} {scope : Scope} {cl : List (Str × Addr)} {Q : Value → Shared → Prop} {ax : Addr} {its : Array Value} {kx : Nat}
    (FV : Nat → Value → Heap → Heap → Prop) (B : Below A₀ base outer h₀) (F : Fr h₀ L s.heap m) (X₀ : K.In h₀) (N : News h₀ L s.heap news) (T : Top p loose mean mg mb h₀) (hA : A.frames = some (envF :: outer)) (hf : envF.frame = some L) (hke : envF.scope.kind = .function)
    (hh : A.handled = none) (hge : env.globals = mainGlobals) (hcode : env.code = .ref c) (Cd : CodeHd h₀ c P) (U : UpdF P (tabObj ps) news g) (ht : TriplesOk ps.toList)
    (hco : scope.isCoroutine = false) (hx : scope.names.lookup x = some .local) (hkind : scope.kind = .function)
    (hm : (ax, listOf its kx) ∈ news)
    (helt : ∀ G C' I code ps' E' i vi (hr : Heap) (s₂ : Shared) m₂, i < its.size → its[i]? = some vi → m₂ x = some vi → Fr G C' s₂.heap m₂ → News G C' s₂.heap (g (tabObj ps')) → Below A base (envF :: outer) G → K.In G → Top p loose mean mg mb G → (∀ p ∈ g (tabObj ps'), p.1 < C') →
      (∀ b o, hr.get? b = some o → ∃ o', s₂.heap.get? b = some o') →
      wpAny (model prog w) (A.in1.in1.over (.compLoop (.GeneratorExp elt [⟨.Name x px, iter, [], 0⟩] scope pos) 0 (.ref I) .none (genEnv scope cl C' code builtinsNs env)) []) (eval elt (genEnv scope cl C' code builtinsNs env)) (fun y s₃ => FV i y hr s₃.heap ∧ Keeps s₂ s₃) E' s₂)
    (h : ∀ a gi C' I h' tk gens' ps', TriplesOk ps'.toList → Fr h₀ L h' m → News h₀ L h' (g (tabObj ps')) → GenAtH prog w A.in1 a gi C' (List.range C') [I] its.size FV 0 { s with heap := h', toks := tk, gens := gens' } → a ≠ C' → a ∉ List.range C' → (∀ b ∈ a :: C' :: List.range C', b < h'.objs.size) →
      cStatics ∈ List.range C' → cStatics ≠ C' → cStatics ∉ [I] → I ∈ List.range C' → (AllBare s.gens → AllBare gens') → (∀ z, GenOnlyQ gi gens' z → AllBare s.gens → AllBare z) → s.heap.get? C' = none → s.heap.get? I = none → (∀ b o, b ≠ P → s.heap.get? b = some o → h'.get? b = some o) →
      Q (.ref a) { s with heap := h', toks := tk, gens := gens' }) :
    wpAny (model prog w) A (pyIter (.ref ax)) (fun it s₂ => s₂.heap.NoLimit ∧
      wpAny (model prog w) A (genexprCode env pos (env.qual ++ "<genexpr>") scope) (fun code s₃ => wpAny (model prog w) A (builtinsFor env.globals env.builtins) (fun bi s₄ =>
        ∀ h', h'.Ns s₄.heap.objs.size (fun y => if y = ".0" then some it else none) → Heap.SameBut s₄.heap.objs.size (s₄.heap.push { cls := .type "frame", data := .dict #[] }) h' →
          Q (.ref h'.objs.size) { s₄ with
            gens := s₄.gens.push (.fresh (.compStart (.GeneratorExp elt [⟨.Name x px, iter, [], 0⟩] scope pos) 0 it .none (genEnv scope cl s₄.heap.objs.size code bi env))),
            toks := s₄.toks + 1 + 1 + 1,
            heap := h'.push { cls := .type "generator", data := .fields #[.int s₄.gens.size 0, .str "<genexpr>" (s₄.toks + 1), .str (env.qual ++ "<genexpr>") (s₄.toks + 1 + 1)] } }) E s₃) E s₂) E s := by
  have hl : s.heap.IsList ax its := News.isList N hm
  refine wpAny_pyIter_list hl ?_
  have up₁ : ∀ b o, s.heap.get? b = some o → (s.heap.push { cls := .type "list_iterator", data := .fields #[.ref ax, .int 0 0] }).get? b = some o := fun b o e => Heap.get?_push_of_some _ e
  have nolim : ∀ h' : Heap, (∀ b o, h₀.get? b = some o → h'.get? b = some o) → h'.NoLimit := fun h' k => T.nolimit.keeps k
  refine ⟨nolim _ fun b o e => up₁ b o (F.keep b o e), ?_⟩
  have hnI : s.heap.get? s.heap.objs.size = none := by
    cases e : s.heap.get? s.heap.objs.size with
    | none => rfl
    | some o' => exact absurd (Heap.lt_size e) (Nat.lt_irrefl _)
  have hPm : (P, tabObj ps) ∈ news := by
    obtain ⟨pre, post, e1, _⟩ := U.split
    rw [e1]; exact List.mem_append_right _ (.head _)
  have hPlt : P < s.heap.objs.size := Heap.lt_size (N _ hPm).1
  have hIt : (s.heap.push { cls := .type "list_iterator", data := .fields #[.ref ax, .int 0 0] }).get? s.heap.objs.size = some { cls := .type "list_iterator", data := .fields #[.ref ax, .int 0 0] } := Heap.get?_push_size _ rfl
  refine gcode hcode (Cd.keeps fun b o e => up₁ b o (F.keep b o e)) (up₁ _ _ (N _ hPm).1) ht fun code h₄ tk₄ ps' ht' hk₄ hP₄ => ?_
  dsimp only at hk₄ hP₄ ⊢
  have F₄ : Fr h₀ L h₄ m := by
    obtain ⟨o, es, ep, ho, rr⟩ := F.ns
    refine ⟨⟨o, es, ep, hk₄ _ _ (fun q => (N _ hPm).2.1 q.symm) (up₁ _ _ ho), rr⟩, fun b o e => hk₄ _ _ (fun q => ?_) (up₁ _ _ (F.keep b o e)), F.above⟩
    have z := (N _ hPm).2.2
    rw [q] at e; rw [e] at z; cases z
  have N₄ : News h₀ L h₄ (g (tabObj ps')) := updF_news U N (fun b q hb e => hk₄ b q hb (up₁ b q e)) hP₄
  have hI₄ := hk₄ _ _ (Nat.ne_of_gt hPlt) hIt
  obtain ⟨bm, ob, b1, b2, b3, b4, b5, b6⟩ := T.bmain
  refine wpAny_builtinsFor (m := mg) (by rw [hge]; exact (T.keeps F₄.keep).g) b1 b2 (F₄.keep _ _ b3) b4 b5 b6 ?_
  intro h₅ hn₅ hs₅
  dsimp only at hn₅ hs₅ ⊢
  have e0 : s.heap.objs.size < h₄.objs.size := Heap.lt_size hI₄
  have hz₅ : h₅.objs.size = h₄.objs.size + 1 := by rw [hs₅.1, Heap.size_push]
  have keep₅ : ∀ b o, h₄.get? b = some o → h₅.get? b = some o := fun b o e => hs₅.extBut b o (Nat.ne_of_lt (Heap.lt_size e)) (Heap.get?_push_of_some _ e)
  have keep₆ : ∀ b o, h₄.get? b = some o → (h₅.push { cls := .type "generator", data := .fields #[.int s.gens.size 0, .str "<genexpr>" (tk₄ + 1), .str (env.qual ++ "<genexpr>") (tk₄ + 1 + 1)] }).get? b = some o := fun b o e => Heap.get?_push_of_some _ (keep₅ b o e)
  have hnC : s.heap.get? h₄.objs.size = none := by
    cases e : s.heap.get? h₄.objs.size with
    | none => rfl
    | some o' => exact absurd (Nat.lt_trans (Heap.lt_size e) e0) (Nat.lt_irrefl _)
  have hclt : cStatics < h₄.objs.size := by obtain ⟨mc, hn, _⟩ := T.nolimit; exact (hn.keeps F₄.keep).lt
  have hIne : cStatics ∉ [s.heap.objs.size] := fun q => by
    obtain ⟨mc, hn, _⟩ := T.nolimit
    have := (hn.keeps F.keep).lt
    rw [List.mem_singleton.mp q] at this
    exact Nat.lt_irrefl _ this
  have hI0 : h₀.get? s.heap.objs.size = none := next_is_new F
  have N₅ : News h₀ L h₄ ((s.heap.objs.size, { cls := .type "list_iterator", data := .fields #[.ref ax, .int 0 0] }) :: g (tabObj ps')) := fun q hq => by
    rcases List.mem_cons.mp hq with rfl | hq
    · exact ⟨hI₄, Nat.ne_of_gt F.ns.lt, hI0⟩
    · exact N₄ q hq
  have goff : ∀ q ∈ g (tabObj ps'), q.1 ≠ s.heap.objs.size := by
    obtain ⟨pre, post, e1, e2, _, _⟩ := U.split
    rw [e2]
    intro q hq
    have : ∃ q' ∈ news, q'.1 = q.1 := by
      rw [e1]
      rcases List.mem_append.mp hq with hq | hq
      · exact ⟨q, List.mem_append_left _ hq, rfl⟩
      · rcases List.mem_cons.mp hq with rfl | hq
        · exact ⟨(P, tabObj ps), List.mem_append_right _ (.head _), rfl⟩
        · exact ⟨q, List.mem_append_right _ (.tail _ hq), rfl⟩
    obtain ⟨q', hq', eq⟩ := this
    rw [← eq]
    exact Nat.ne_of_lt (Heap.lt_size (N q' hq').1)
  obtain ⟨_, BG, st, _⟩ := groundX (s := { s with heap := h₄, toks := tk₄ }) (R := fun _ _ => True) B F₄ N₅ hA hf hke
  have hPax : P ≠ ax := fun q => by
    have z1 := (N _ hPm).1
    have z2 := (N _ hm).1
    dsimp only at z1 z2
    rw [q, z2] at z1
    cases z1
  have hst : h₄.IsListIter s.heap.objs.size ax 0 ∧ h₄.IsList ax its := ⟨⟨_, hI₄, rfl, rfl⟩, hl.at fun o e => hk₄ _ _ (Ne.symm hPax) (up₁ _ _ e)⟩
  have haxlt : ax < h₄.objs.size := by obtain ⟨_, e, _⟩ := hst.2; exact Heap.lt_size e
  have haxI : ax ≠ s.heap.objs.size := by obtain ⟨_, e, _⟩ := hl; exact Nat.ne_of_lt (Heap.lt_size e)
  refine h h₅.objs.size s.gens.size h₄.objs.size s.heap.objs.size _ _ _ ps' ht' ⟨F₄.ns.keeps keep₆, fun b o e => keep₆ b o (F₄.keep b o e), F₄.above⟩ (fun q hq => ⟨keep₆ _ _ (N₄ q hq).1, (N₄ q hq).2⟩)
    ⟨⟨_, _, _, Heap.get?_push_size _ rfl, rfl, rfl, rfl⟩, nolim _ fun b o e => keep₆ b o (F₄.keep b o e), _, Array.getElem?_push_size .., fun s'' hal => ⟨rfl, ?_⟩⟩ (by rw [hz₅]; exact Nat.succ_ne_self _) (fun q => by have := List.mem_range.mp q; omega) (fun b hb => ?_)
    (List.mem_range.mpr hclt) (Nat.ne_of_lt hclt) hIne (List.mem_range.mpr e0) (fun k => k.push rfl) (fun z hz k => hz.bare (k.push rfl)) hnC hnI (fun b o hb e => keep₆ b o (hk₄ b o hb (up₁ b o e)))
  · refine seg_startH (A := A.in1.in1) (cenv := genEnv scope cl h₄.objs.size code builtinsNs env) hh (fun A' hA' => (Walks.list hA' s.heap.objs.size ax haxI its).mono_fp fun b hb => by
        rcases List.mem_cons.mp hb with rfl | hb
        · exact List.mem_range.mpr e0
        · rw [List.mem_singleton.mp hb]; exact List.mem_range.mpr haxlt) FV (h₅.push { cls := .type "generator", data := .fields #[.int s.gens.size 0, .str "<genexpr>" (tk₄ + 1), .str (env.qual ++ "<genexpr>") (tk₄ + 1 + 1)] })
      hx (by simp [genEnv, hkind]) hco (fun q => Nat.lt_irrefl _ (List.mem_range.mp q)) (fun i h hI b hb => by rw [List.mem_singleton.mp hb]; obtain ⟨o, e, _⟩ := hI.1; exact ⟨o, e⟩) ?_ s'' s'' _ ⟨hst.1.at fun o e => hal _ (List.mem_cons_of_mem _ (List.mem_range.mpr e0)) _ (keep₆ _ _ e), hst.2.at fun o e => hal _ (List.mem_cons_of_mem _ (List.mem_range.mpr haxlt)) _ (keep₆ _ _ e)⟩
      (hn₅.push _ |>.at' fun o e => hal _ (List.mem_cons_self ..) o e) (GenSince.refl _ _ _) (fun b hb _ o e => hal b (List.mem_cons_of_mem _ hb) o e)
    intro E' i v' hr' s₂ m₂ hi hP hst₂ hex hn₂ hx₂ hk₂
    have kG : ∀ b o, b ≠ s.heap.objs.size → h₄.get? b = some o → s₂.heap.get? b = some o := fun b o hb e => hk₂ b (List.mem_range.mpr (Heap.lt_size e)) (fun q => hb (List.mem_singleton.mp q)) o (keep₆ b o e)
    refine helt _ h₄.objs.size s.heap.objs.size code ps' E' i v' hr' s₂ m₂ hi hP hx₂ ⟨hn₂, fun b o e => kG b o (fun q => ?_) (of_hideAll _ e), Nat.le_of_eq (hideAll_size _ _)⟩
      (fun q hq => ⟨kG _ _ (goff q hq) (N₄ q hq).1, Nat.ne_of_lt (Heap.lt_size (N₄ q hq).1), hideAll_none _ (List.mem_map_of_mem (List.mem_cons_of_mem _ hq))⟩) BG (X₀.keeps st) (T.keeps st) (fun q hq => Heap.lt_size (N₄ q hq).1) hex
    subst q
    have hz := hideAll_none (h := h₄) (b := s.heap.objs.size) (((s.heap.objs.size, ({ cls := .type "list_iterator", data := .fields #[.ref ax, .int 0 0] } : Obj)) :: g (tabObj ps')).map (·.1)) (List.mem_cons_self ..)
    have e2 := hz.symm.trans e
    cases e2
  · rcases List.mem_cons.mp hb with rfl | hb
    · rw [Heap.size_push]; exact Nat.lt_succ_self _
    rcases List.mem_cons.mp hb with rfl | hb
    · rw [Heap.size_push, hz₅]; exact Nat.lt_succ_of_lt (Nat.lt_succ_self _)
    · have := List.mem_range.mp hb
      rw [Heap.size_push, hz₅]; exact Nat.lt_trans this (Nat.lt_succ_of_lt (Nat.lt_succ_self _))
end

section
variable {prog : Program} {w : World} {A : Around} {E : Value → Shared → Prop} {s : Shared}
theorem walksH (hh : A.handled = none) {a : Addr} {g : Nat} {C : Addr} {fp wr : List Addr} {n₀ : Nat} {FV : Nat → Value → Heap → Heap → Prop} {P : Nat → Value → Prop} (haC : a ≠ C) (haf : a ∉ fp) (hsub : ∀ b ∈ wr, b ∈ fp)
    (hroom : A.depth < recursionLimit) (hcs : cStatics ∈ fp) (hcC : cStatics ≠ C) (hcw : cStatics ∉ wr) (hP : ∀ i v hr h, FV i v hr h → P i v) :
    WalksS prog w A a (a :: C :: fp) (C :: wr) (GenOnlyQ g) n₀ P (GenAtH prog w A a g C fp wr n₀ FV) where
  sub := fun b hb => by
    rcases List.mem_cons.mp hb with rfl | hb
    · simp
    · exact List.mem_cons_of_mem _ (List.mem_cons_of_mem _ (hsub b hb))
  grefl := fun _ => .inl rfl
  gtrans := fun _ _ _ x y => x.trans y
  frame := fun j s h' tk st _ hk => st.keeps hcs hk
  item := fun j s Q E hj st hQ => by
    refine wpAny_with_toks (Nat.le_refl s.toks) ?_
    refine nextH_item hh haC haf hsub hroom hcC hcw hj st fun v h' tk gs hF _ hst' hk hg htk => ?_
    exact hQ v _ (hP _ _ _ _ hF) hst' ⟨hk, hg, rfl, rfl, htk⟩
  done := fun s Q E st hQ => by
    refine wpAny_with_toks (Nat.le_refl s.toks) ?_
    exact nextH_done hh hroom st fun h' tk gs hk hg htk => hQ _ ⟨hk, hg, rfl, rfl, htk⟩
  self := fun _ _ _ _ st hQ => wpAny_pyIter_gen st.1 hQ
theorem call_allH (hh : A.handled = none) {a : Addr} {g : Nat} {C : Addr} {fp wr : List Addr} {n₀ : Nat} {FV : Nat → Value → Heap → Heap → Prop} {Q : Value → Shared → Prop} (haC : a ≠ C) (haf : a ∉ fp) (hsub : ∀ b ∈ wr, b ∈ fp)
    (hroom : A.depth < recursionLimit) (hcs : cStatics ∈ fp) (hcC : cStatics ≠ C) (hcw : cStatics ∉ wr) (hF : ∀ i v hr h, FV i v hr h → v = .bool true) (hst : GenAtH prog w A.in1 a g C fp wr n₀ FV 0 s)
    (hQ : ∀ h' tk gs, (∀ b o, b ∉ C :: wr → s.heap.get? b = some o → h'.get? b = some o) → GenOnlyQ g s.gens gs → Q (.bool true) { s with heap := h', toks := tk, gens := gs }) :
    wpAny (model prog w) A (call (.builtin "all") [.ref a]) Q E s := by
  refine call_all_walkS (wpAny_pyIter_gen hst.1 ⟨a, _, _, GenOnlyQ g, n₀, (fun _ v => v = .bool true), _, (fun _ => true), rfl, walksH (A := A.in1) hh haC haf hsub hroom hcs hcC hcw (fun i v hr h => hF i v hr h), hst, ?_, fun s' hm => ?_⟩)
  · intro i v s' Q' E' hP hQ'
    subst hP
    exact wpAny_truthy_bool hQ'
  · have e : (List.range n₀).all (fun _ => true) = true := by simp
    rw [e]
    have z := hQ s'.heap s'.toks s'.gens hm.heap hm.gens
    have q1 := hm.drawn
    have q2 := hm.os
    rw [← q1, ← q2] at z
    exact z
end
set_option maxRecDepth 100000
set_option maxHeartbeats 4000000
/-- the rest of a generator expression, where the iterable stands -/
def GenRest (M : Model) (A : Around) (E : Value → Shared → Prop) (elt : PySem.Expr) (x : Str) (px : Pos) (iter : PySem.Expr) (scope : Scope) (cl : List (Str × Addr)) (pos : Pos) (env : Env) (Q : Value → Shared → Prop) (xv : Value) (s₁ : Shared) : Prop :=
  wpAny M A (pyIter xv) (fun it s₂ => s₂.heap.NoLimit ∧
      wpAny M A (genexprCode env pos (env.qual ++ "<genexpr>") scope) (fun code s₃ => wpAny M A (builtinsFor env.globals env.builtins) (fun bi s₄ =>
        ∀ h', h'.Ns s₄.heap.objs.size (fun y => if y = ".0" then some it else none) → Heap.SameBut s₄.heap.objs.size (s₄.heap.push { cls := .type "frame", data := .dict #[] }) h' →
          Q (.ref h'.objs.size) { s₄ with
            gens := s₄.gens.push (.fresh (.compStart (.GeneratorExp elt [⟨.Name x px, iter, [], 0⟩] scope pos) 0 it .none (genEnv scope cl s₄.heap.objs.size code bi env))),
            toks := s₄.toks + 1 + 1 + 1,
            heap := h'.push { cls := .type "generator", data := .fields #[.int s₄.gens.size 0, .str "<genexpr>" (s₄.toks + 1), .str (env.qual ++ "<genexpr>") (s₄.toks + 1 + 1)] } }) E s₃) E s₂) E s₁
theorem genexp_of {M : Model} {A : Around} {E : Value → Shared → Prop} {s : Shared} {env : Env} {elt iter : PySem.Expr} {x : Str} {px : Pos} {scope : Scope} {cl : List (Str × Addr)} {pos : Pos} {Q : Value → Shared → Prop}
    (hco : scope.isCoroutine = false) (hclos : closureFor scope env = pure cl) (hcell : ∀ y ∈ scope.names, y.2 ≠ .cell) (h0 : scope.names.lookup (".0" : Str) = some NameKind.local) (hkind : scope.kind = .function)
    (hroom : A.depth < recursionLimit) (h : wpAny M A (eval iter env) (GenRest M A E elt x px iter scope cl pos env Q) E s) (hs : ∀ x, genFold iter env x = pure x) :
    wpAny M A (eval (.GeneratorExp elt [⟨.Name x px, iter, [], 0⟩] scope pos) env) Q E s :=
  wpAny_GeneratorExp_make hco hclos hcell h0 hkind hroom h hs
section
variable {prog : Program} {w : World} {A A₀ : Around} {E : Value → Shared → Prop} {s : Shared} {base h₀ : Heap} {outer : List Env} {L : Addr} {m : Str → Option Value} {K : Frag} {p : Program} {loose : List Str} {mean : ExcName → Option Value} {mg mb : Str → Option Value} {news : List (Addr × Obj)} {envF env : Env} {c P : Addr} {ps : Array Value} {g : Obj → List (Addr × Obj)}
theorem gen_listR {elt iter : PySem.Expr} {x : Str} {px pos : Pos} {scope : Scope} {cl : List (Str × Addr)} {Q : Value → Shared → Prop} {ax : Addr} {its : Array Value} {kx : Nat}
    (FV : Nat → Value → Heap → Heap → Prop) (B : Below A₀ base outer h₀) (F : Fr h₀ L s.heap m) (X₀ : K.In h₀) (N : News h₀ L s.heap news) (T : Top p loose mean mg mb h₀) (hA : A.frames = some (envF :: outer)) (hf : envF.frame = some L) (hke : envF.scope.kind = .function)
    (hh : A.handled = none) (hge : env.globals = mainGlobals) (hcode : env.code = .ref c) (Cd : CodeHd h₀ c P) (U : UpdF P (tabObj ps) news g) (ht : TriplesOk ps.toList)
    (hco : scope.isCoroutine = false) (hx : scope.names.lookup x = some .local) (hkind : scope.kind = .function)
    (hm : (ax, listOf its kx) ∈ news)
    (helt : ∀ G C' I code ps' E' i vi (hr : Heap) (s₂ : Shared) m₂, i < its.size → its[i]? = some vi → m₂ x = some vi → Fr G C' s₂.heap m₂ → News G C' s₂.heap (g (tabObj ps')) → Below A base (envF :: outer) G → K.In G → Top p loose mean mg mb G → (∀ p ∈ g (tabObj ps'), p.1 < C') →
      (∀ b o, hr.get? b = some o → ∃ o', s₂.heap.get? b = some o') →
      wpAny (model prog w) (A.in1.in1.over (.compLoop (.GeneratorExp elt [⟨.Name x px, iter, [], 0⟩] scope pos) 0 (.ref I) .none (genEnv scope cl C' code builtinsNs env)) []) (eval elt (genEnv scope cl C' code builtinsNs env)) (fun y s₃ => FV i y hr s₃.heap ∧ Keeps s₂ s₃) E' s₂)
    (h : ∀ a gi C' I h' tk gens' ps', TriplesOk ps'.toList → Fr h₀ L h' m → News h₀ L h' (g (tabObj ps')) → GenAtH prog w A.in1 a gi C' (List.range C') [I] its.size FV 0 { s with heap := h', toks := tk, gens := gens' } → a ≠ C' → a ∉ List.range C' → (∀ b ∈ a :: C' :: List.range C', b < h'.objs.size) →
      cStatics ∈ List.range C' → cStatics ≠ C' → cStatics ∉ [I] → I ∈ List.range C' → (AllBare s.gens → AllBare gens') → (∀ z, GenOnlyQ gi gens' z → AllBare s.gens → AllBare z) → s.heap.get? C' = none → s.heap.get? I = none → (∀ b o, b ≠ P → s.heap.get? b = some o → h'.get? b = some o) →
      Q (.ref a) { s with heap := h', toks := tk, gens := gens' }) :
    GenRest (model prog w) A E elt x px iter scope cl pos env Q (.ref ax) s :=
  gen_list FV B F X₀ N T hA hf hke hh hge hcode Cd U ht hco hx hkind hm helt h
theorem gen_rangeR {elt iter : PySem.Expr} {x : Str} {px pos : Pos} {scope : Scope} {cl : List (Str × Addr)} {Q : Value → Shared → Prop} {r : Addr} {n : Nat} {t u v : Tok}
    (FV : Nat → Value → Heap → Heap → Prop) (B : Below A₀ base outer h₀) (F : Fr h₀ L s.heap m) (X₀ : K.In h₀) (N : News h₀ L s.heap news) (T : Top p loose mean mg mb h₀) (hA : A.frames = some (envF :: outer)) (hf : envF.frame = some L) (hke : envF.scope.kind = .function)
    (hh : A.handled = none) (hge : env.globals = mainGlobals) (hcode : env.code = .ref c) (Cd : CodeHd h₀ c P) (U : UpdF P (tabObj ps) news g) (ht : TriplesOk ps.toList)
    (hco : scope.isCoroutine = false) (hx : scope.names.lookup x = some .local) (hkind : scope.kind = .function)
    (hr : IsRange s.heap r 0 n 1 t u v) (hsm : Builtin.Range.small 0 n 1 = true) (hsz : Builtin.Range.rangeSize 0 n 1 = n)
    (helt : ∀ G C' I code ps' E' i ti (hr : Heap) (s₂ : Shared) m₂, i < n → m₂ x = some (.int i ti) → Fr G C' s₂.heap m₂ → News G C' s₂.heap (g (tabObj ps')) → Below A base (envF :: outer) G → K.In G → Top p loose mean mg mb G → (∀ p ∈ g (tabObj ps'), p.1 < C') →
      (∀ b o, hr.get? b = some o → ∃ o', s₂.heap.get? b = some o') →
      wpAny (model prog w) (A.in1.in1.over (.compLoop (.GeneratorExp elt [⟨.Name x px, iter, [], 0⟩] scope pos) 0 (.ref I) .none (genEnv scope cl C' code builtinsNs env)) []) (eval elt (genEnv scope cl C' code builtinsNs env)) (fun y s₃ => FV i y hr s₃.heap ∧ Keeps s₂ s₃) E' s₂)
    (h : ∀ a gi C' I h' tk gens' ps', TriplesOk ps'.toList → Fr h₀ L h' m → News h₀ L h' (g (tabObj ps')) → GenAtH prog w A.in1 a gi C' (List.range C') [I] n FV 0 { s with heap := h', toks := tk, gens := gens' } → a ≠ C' → a ∉ List.range C' → (∀ b ∈ a :: C' :: List.range C', b < h'.objs.size) →
      cStatics ∈ List.range C' → cStatics ≠ C' → cStatics ∉ [I] → I ∈ List.range C' → (AllBare s.gens → AllBare gens') → (∀ z, GenOnlyQ gi gens' z → AllBare s.gens → AllBare z) → s.heap.get? C' = none → s.heap.get? I = none → (∃ o, h'.get? C' = some o) → (∃ o, h'.get? I = some o) → (∀ b o, b ≠ P → s.heap.get? b = some o → h'.get? b = some o) →
      Q (.ref a) { s with heap := h', toks := tk, gens := gens' }) :
    GenRest (model prog w) A E elt x px iter scope cl pos env Q (.ref r) s :=
  gen_range FV B F X₀ N T hA hf hke hh hge hcode Cd U ht hco hx hkind hr hsm hsz helt h
end
theorem top_YModC : True := by
  w_top off
  trivial
set_option maxRecDepth 100000
set_option maxHeartbeats 8000000
set_option rowWalk.seconds 0
section
variable {w : World} {p : Program} {loose : List Str} {mean : ExcName → Option Value} {mg mb : Str → Option Value} {dp un : Nat} {gd : Option (List Code)} {cn : Str} {cs : Scope} {a : Addr} {ccd : Value} {cl : List (Str × Addr)} {outer : List Env} {A₀ : Around} {base h₀ : Heap} {L : Addr} {m : Str → Option Value} {news : List (Addr × Obj)} {s : Shared} {Q E : Value → Shared → Prop}
def ModP (P : Params) (Mo D : Addr) (b : Bool) (t0 : Addr × Obj) (sub : List (Addr × Obj)) (v : Value) (_h : Heap) (led : List (Addr × Obj)) : Prop :=
  ((∀ p ∈ sub, p ∈ led) ∧ ∃ ps', TriplesOk ps'.toList ∧ (t0.1, tabObj ps') ∈ led) ∧ ∃ x dx t1 t2 t3, v = .ref x ∧ GnNe x (t0 :: sub) ∧ GnNe dx (t0 :: sub) ∧ @Ne Nat dx x ∧ (x, instObj 638 dx) ∈ led ∧ (dx, matDict P t1 t2 t3 Mo D b) ∈ led
theorem modcall_code {gg : Obj → List (Addr × Obj)} (B : Below A₀ base outer h₀) (F : Fr h₀ L s.heap m) (X : (hdK.heap_1_39 w.params).In h₀) (N : News h₀ L s.heap news) (T : Top p loose mean mg mb h₀) (hk : cs.kind = .function)
   {Mo dM R D l e1 e2 d1 d2 : Addr} {u1 : Tok} {its : Array Value} {kd kl : Nat} {b : Bool} {ps : Array Value}
   (U : UpdF 362 (tabObj ps) news gg) (ht : TriplesOk ps.toList)
   (m1 : (Mo, instObj 673 dM) ∈ news) (m2 : (dM, modDict w.params u1 R) ∈ news) (m3 : (D, listOf #[.ref l] kd) ∈ news) (m4 : (l, listOf its kl) ∈ news) (m5 : (e1, instObj 581 d1) ∈ news) (m6 : (e2, instObj 581 d2) ∈ news)
   (hit : ∀ (i : Nat) v, its[i]? = some v → v = .ref e1 ∨ v = .ref e2)
   (hsz : its.size < 8) (hd : dp + 80 < recursionLimit) {args : Args} {R9 : Result → Shared → Prop}
   (hB : ∀ fd oc od osl, (Mine.hdK.heap_1_39 w.params).lookup 367 = some ⟨oc, od, .func fd, osl⟩ → BindsTo s fd args [(Str.ofString "self", .ref Mo), (Str.ofString "matrix_elements", .ref D), (Str.ofString "transpose", .bool b)])
   (ret : ∀ x dx t1 t2 t3 h' tk' gens' ps', TriplesOk ps'.toList → GnNe dx (gg (tabObj ps')) → GnNe x ((dx, matDict w.params t1 t2 t3 Mo D b) :: gg (tabObj ps')) → Fr h₀ L h' m → News h₀ L h' ((x, instObj 638 dx) :: (dx, matDict w.params t1 t2 t3 Mo D b) :: gg (tabObj ps')) → KeepsBut [362] s.heap h' → (AllBare s.gens → AllBare gens') → R9 (.ok (.ret (.ref x))) {s with heap := h', toks := tk', gens := gens'}) :
   codeAny (model (PySem.Challenge.rw_yi0033_01.row.toRowW.prog) w) (ktrTop dp un gd cn cs L a ccd cl outer) (.call (.ref 367) args) R9 s := by
  have m0 := UpdF.memU U
  have q1 : @Ne Nat Mo 362 := UpdF.neq U m1 (fun e => nomatch e)
  have q2 : @Ne Nat dM 362 := UpdF.neq U m2 (fun e => nomatch e)
  have q3 : @Ne Nat D 362 := UpdF.neq U m3 (fun e => nomatch e)
  have q4 : @Ne Nat l 362 := UpdF.neq U m4 (fun e => nomatch e)
  have q5 : @Ne Nat e1 362 := UpdF.neq U m5 (fun e => nomatch e)
  have q6 : @Ne Nat e2 362 := UpdF.neq U m6 (fun e => nomatch e)
  have hsub : ∀ p ∈ [((362 : Addr), tabObj ps), (Mo, instObj 673 dM), (dM, modDict w.params u1 R), (D, listOf #[.ref l] kd), (l, listOf its kl), (e1, instObj 581 d1), (e2, instObj 581 d2)], p ∈ news := by
    intro p hp
    rcases List.mem_cons.mp hp with rfl | hp
    · exact m0
    rcases List.mem_cons.mp hp with rfl | hp
    · exact m1
    rcases List.mem_cons.mp hp with rfl | hp
    · exact m2
    rcases List.mem_cons.mp hp with rfl | hp
    · exact m3
    rcases List.mem_cons.mp hp with rfl | hp
    · exact m4
    rcases List.mem_cons.mp hp with rfl | hp
    · exact m5
    rcases List.mem_cons.mp hp with rfl | hp
    · exact m6
    cases hp
  have N2 := News.sub N hsub
  k_dflt (refine' code_S (fun g => DoneG g s (ModP w.params Mo D b (362, tabObj ps) [(Mo, instObj 673 dM), (dM, modDict w.params u1 R), (D, listOf #[.ref l] kd), (l, listOf its kl), (e1, instObj 581 d1), (e2, instObj 581 d2)])) ?k1 ?k2 ?k3 N2 ?k5 ?kA ?kF ?kK ?k6 ?k7 ?k8 ?k9 ?kB ?_ ?fin ?c2 ?c3 ?c4 ?c5; (case kA => exact rfl); (case kF => first | exact rfl | assumption); (case kK => assumption); (case k1 => k_asm); (case k2 => k_asm); (case k3 => k_asm); (case k5 => k_asm); (case k6 => k_is); (case k7 => k_is); (case k8 => ktr_room); (case k9 => exact hB _ _ _ _ rfl); (case c5 => decide); (case kB => exact locs rfl); (case c2 => exact rfl); (case c3 => exact rfl); (case c4 => exact rfl))
  case fin =>
    intro v s' d
    obtain ⟨h', tk, gens', led, ps', rfl, k, ht', eP, hl, hb, hs, x, dx, t1, t2, t3, rfl, g1, g2, n1, e1', e2'⟩ := DoneG.tab d (fun p hp => (N2 p hp).1) (fun _ _ _ q => q.1)
    have hx := fresh_of hl e1' g1
    have hdx := fresh_of hl e2' g2
    have F1 := tab_fr F N m0 k
    have N1 := tab_news U N k eP
    exact ret x dx t1 t2 t3 h' tk gens' ps' ht' (gn_upd U (fresh_ne N hdx)) ⟨n1, gn_upd U (fresh_ne N hx)⟩ F1 (fresh_news F hx (fresh_news F hdx N1 (hl _ e2').1) (hl _ e1').1) k hb
  intro g' L' h' F' N' B' X' T' l1
  clear N2 N F X ret hsub m0 m1 m2 m3 m4 m5 m6 U
  k_lt l1
  with_reducible show wpAny _ _ _ _ _ _
  k_fold
  repeat' ((fail_if_success (with_reducible show wpAny _ _ (exec (Stmt.For _ _ _ _ _) _) _ _ _)); (first | (k_unfold; (try dsimp only)) | ((with_reducible refine qb1 ?_); (try dsimp only)) | ((with_reducible refine qb2 ?_); (try dsimp only)) | ((with_reducible refine qa1 ?_); (try dsimp only)) | ((with_reducible refine qa2 ?_); (try dsimp only [List.cons_append, List.nil_append])) | ((with_reducible refine qs1 ?_); (try dsimp only)) | ((with_reducible refine qs2 ?_); (try dsimp only)) | (with_reducible refine qs3 ?_) | (with_reducible refine qs4 ?_) | ((with_reducible refine qc1 ?_); (try dsimp only)) | ((with_reducible refine qu1 ?_); (try dsimp only)) | (with_reducible refine qu2 ?_) | ((with_reducible refine qg1 ?_); (try dsimp only)) | (with_reducible refine qg2 ?_) | ((with_reducible refine qt1 ?_); (try dsimp only)) | ((with_reducible refine qr1 ?_); (try dsimp only)) | (with_reducible refine qb0 ?_) | (with_reducible refine qu0 ?_) | ((with_reducible show wpAny _ _ (spliced (backTo _ (starEach (_ :: _) _))) _ _ _); k_dflt (refine qa0 ?_)) | ((with_reducible show wpAny _ _ (execs (_ :: _) _) _ _ _); first | (k_here; k_gentoks) | (with_reducible refine qs0 ?_)) | ((with_reducible show wpAny _ _ (eval (PySem.Expr.Call (PySem.Expr.Name _ _) _ [] _) _) _ _ _); (fail_if_success (with_reducible show wpAny _ _ (eval _ (compEnvC _ _ _ _)) _ _ _)); k_dflt (refine qc0 ?_)) | ((with_reducible show wpAny _ _ (exec (Stmt.Assign [PySem.Expr.Name _ _] _ _) _) _ _ _); (fail_if_success (with_reducible show wpAny _ _ (exec (Stmt.Assign _ (PySem.Expr.ListComp _ _ _ _) _) _) _ _ _)); k_dflt (refine qg0 ?_)) | ((with_reducible show wpAny _ _ (eval (PySem.Expr.Attribute (PySem.Expr.Name _ _) _ _) _) _ _ _); k_dflt (refine qt0 ?_)) | (with_reducible refine qr0 ?_) | ((with_reducible show wpAny _ _ (call (Value.ref _) _ _) _ _ _); first | (with_reducible (k_here; (with_reducible show wpAny _ _ (call (Value.ref 662) _ _) _ _ _); (k_dflt (show wpAny _ _ (call (Value.ref 662) [Value.ref _, Value.ref _] [(Str.ofString "transpose", Value.bool _)]) _ _ _)); k_dflt (refine' mat_use ?zzk1 ?zzk2 ?zzk3 ?zzk4 ?zzk5 ?zzk6 ?zzm1 ?zzm2 ?zzm3 ?zzm4 ?zzz1 ?zzd1 ?_; (case zzk1 => k_asm); (case zzk2 => k_asm); (case zzk3 => k_asm); (case zzk4 => k_asm); (case zzk5 => k_asm); (case zzk6 => first | exact rfl | assumption); (case zzm1 => (first | walk_at "mm" | k_mem)); (case zzm2 => (first | walk_at "mm" | k_mem)); (case zzm3 => (first | walk_at "mm" | k_mem)); (case zzm4 => (first | walk_at "mm" | k_mem)); (case zzz1 => first | assumption | decide); (case zzd1 => ktr_room); k_whole); (intro x9 dx9 t9 u9 v9 h9 tk9 g9 gg9 F9 N9 k9; clear k9); (try k_sweep)))) | ((with_reducible show wpAny _ _ (eval (PySem.Expr.Name _ _) _) _ _ _); (with_reducible (k_here; (with_reducible show wpAny _ _ (eval (Expr.Name _ _) (genEnv _ _ _ _ _ _)) _ _ _); k_dflt (first | refine nameE_L (by k_asm) (by first | assumption | exact rfl) ?_ | refine nameE_F (by k_asm) (by exact rfl) (by (first | walk_at "mm" | k_mem)) (by first | rfl | assumption) ?_ | refine nameE_K (by k_asm) (by k_asm) (by k_asm) (by k_is) ?_ | refine nameE_B (by k_asm) (by k_asm) (by k_asm) (by k_is) (by boot_by_name) (by decide) ?_)))) | ((with_reducible show wpAny _ _ (setItem (Value.ref _) (Value.int _ _) _) _ _ _); (with_reducible (k_here; (with_reducible show wpAny _ _ (setItem (Value.ref _) (Value.int _ _) _) _ _ _); k_dflt (refine' set_here ?zzk1 ?zzk2 ?zzk3 ?zzk4 ?zzk5 ?zzk6 ?zzk7 ?_; (case zzk1 => k_asm); (case zzk2 => k_asm); (case zzk3 => k_upd); (case zzk4 => decide); (case zzk5 => simp; done); (case zzk6 => decide); (case zzk7 => exact rfl); k_whole); intro h' F' N'; (simp only [List.setIfInBounds_toArray, Int.toNat_zero, Int.reduceToNat, List.set_cons_zero, List.set_cons_succ] at N'); (try k_sweep)))) | ((with_reducible show wpAny _ _ (getMethod (Value.ref _) _ _) _ _ _); (with_reducible (k_here; k_dflt (first | (refine' method_inst ?zzk1 ?zzk2 ?zzk3 ?zzk4 ?zzk5 ?zzk6 ?zzk7 ?_; (case zzk1 => k_asm); (case zzk2 => k_asm); (case zzk3 => k_inst); (case zzk4 => k_is); (case zzk5 => k_is); (case zzk6 => k_is); (case zzk7 => k_get); k_whole) | (refine' kmu_own ?zzk1 ?zzk2 ?zzk3 ?zzk4 ?zzk5 ?_; (case zzk1 => k_asm); (case zzk2 => k_asm); (case zzk3 => k_inst); (case zzk4 => k_is); (case zzk5 => k_is); k_whole) | (refine' kmu_sm ?zzk1 ?zzk2 ?zzk4 ?zzk5 ?zzk6 ?zzk7 ?zzk8 ?zzk9 ?zzk10 ?zzk11 ?zzk12 ?zzk13 ?zzk14 ?_; (case zzk1 => k_asm); (case zzk2 => k_asm); (case zzk4 => k_inst); (case zzk5 => k_is); (case zzk6 => k_is); (case zzk7 => k_is); (case zzk8 => k_is); (case zzk9 => k_is); (case zzk10 => k_is); (case zzk11 => decide +kernel); (case zzk12 => k_get); (case zzk13 => k_is); (case zzk14 => k_handed); k_whole))))) | walk1 | dsimp only))
  with_unfolding_all refine' For1 (h₀ := g') ?hx ?hp ?_
  case hx => exact rfl
  case hp => exact rfl
  repeat' ((fail_if_success (with_reducible show ForOne _ _ _ _ _ _ _ _ _ _)); (first | ((with_reducible refine qb1 ?_); (try dsimp only)) | ((with_reducible refine qb2 ?_); (try dsimp only)) | ((with_reducible refine qa1 ?_); (try dsimp only)) | ((with_reducible refine qa2 ?_); (try dsimp only [List.cons_append, List.nil_append])) | ((with_reducible refine qs1 ?_); (try dsimp only)) | ((with_reducible refine qs2 ?_); (try dsimp only)) | (with_reducible refine qs3 ?_) | (with_reducible refine qs4 ?_) | ((with_reducible refine qc1 ?_); (try dsimp only)) | ((with_reducible refine qu1 ?_); (try dsimp only)) | (with_reducible refine qu2 ?_) | ((with_reducible refine qg1 ?_); (try dsimp only)) | (with_reducible refine qg2 ?_) | ((with_reducible refine qt1 ?_); (try dsimp only)) | ((with_reducible refine qr1 ?_); (try dsimp only)) | (with_reducible refine qb0 ?_) | (with_reducible refine qu0 ?_) | ((with_reducible show wpAny _ _ (spliced (backTo _ (starEach (_ :: _) _))) _ _ _); k_dflt (refine qa0 ?_)) | ((with_reducible show wpAny _ _ (execs (_ :: _) _) _ _ _); first | (k_here; k_gentoks) | (with_reducible refine qs0 ?_)) | ((with_reducible show wpAny _ _ (eval (PySem.Expr.Call (PySem.Expr.Name _ _) _ [] _) _) _ _ _); (fail_if_success (with_reducible show wpAny _ _ (eval _ (compEnvC _ _ _ _)) _ _ _)); k_dflt (refine qc0 ?_)) | ((with_reducible show wpAny _ _ (exec (Stmt.Assign [PySem.Expr.Name _ _] _ _) _) _ _ _); (fail_if_success (with_reducible show wpAny _ _ (exec (Stmt.Assign _ (PySem.Expr.ListComp _ _ _ _) _) _) _ _ _)); k_dflt (refine qg0 ?_)) | ((with_reducible show wpAny _ _ (eval (PySem.Expr.Attribute (PySem.Expr.Name _ _) _ _) _) _ _ _); k_dflt (refine qt0 ?_)) | (with_reducible refine qr0 ?_) | ((with_reducible show wpAny _ _ (call (Value.ref _) _ _) _ _ _); first | (with_reducible (k_here; (with_reducible show wpAny _ _ (call (Value.ref 662) _ _) _ _ _); (k_dflt (show wpAny _ _ (call (Value.ref 662) [Value.ref _, Value.ref _] [(Str.ofString "transpose", Value.bool _)]) _ _ _)); k_dflt (refine' mat_use ?zzk1 ?zzk2 ?zzk3 ?zzk4 ?zzk5 ?zzk6 ?zzm1 ?zzm2 ?zzm3 ?zzm4 ?zzz1 ?zzd1 ?_; (case zzk1 => k_asm); (case zzk2 => k_asm); (case zzk3 => k_asm); (case zzk4 => k_asm); (case zzk5 => k_asm); (case zzk6 => first | exact rfl | assumption); (case zzm1 => (first | walk_at "mm" | k_mem)); (case zzm2 => (first | walk_at "mm" | k_mem)); (case zzm3 => (first | walk_at "mm" | k_mem)); (case zzm4 => (first | walk_at "mm" | k_mem)); (case zzz1 => first | assumption | decide); (case zzd1 => ktr_room); k_whole); (intro x9 dx9 t9 u9 v9 h9 tk9 g9 gg9 F9 N9 k9; clear k9); (try k_sweep)))) | ((with_reducible show wpAny _ _ (eval (PySem.Expr.Name _ _) _) _ _ _); (with_reducible (k_here; (with_reducible show wpAny _ _ (eval (Expr.Name _ _) (genEnv _ _ _ _ _ _)) _ _ _); k_dflt (first | refine nameE_L (by k_asm) (by first | assumption | exact rfl) ?_ | refine nameE_F (by k_asm) (by exact rfl) (by (first | walk_at "mm" | k_mem)) (by first | rfl | assumption) ?_ | refine nameE_K (by k_asm) (by k_asm) (by k_asm) (by k_is) ?_ | refine nameE_B (by k_asm) (by k_asm) (by k_asm) (by k_is) (by boot_by_name) (by decide) ?_)))) | ((with_reducible show wpAny _ _ (setItem (Value.ref _) (Value.int _ _) _) _ _ _); (with_reducible (k_here; (with_reducible show wpAny _ _ (setItem (Value.ref _) (Value.int _ _) _) _ _ _); k_dflt (refine' set_here ?zzk1 ?zzk2 ?zzk3 ?zzk4 ?zzk5 ?zzk6 ?zzk7 ?_; (case zzk1 => k_asm); (case zzk2 => k_asm); (case zzk3 => k_upd); (case zzk4 => decide); (case zzk5 => simp; done); (case zzk6 => decide); (case zzk7 => exact rfl); k_whole); intro h' F' N'; (simp only [List.setIfInBounds_toArray, Int.toNat_zero, Int.reduceToNat, List.set_cons_zero, List.set_cons_succ] at N'); (try k_sweep)))) | ((with_reducible show wpAny _ _ (getMethod (Value.ref _) _ _) _ _ _); (with_reducible (k_here; k_dflt (first | (refine' method_inst ?zzk1 ?zzk2 ?zzk3 ?zzk4 ?zzk5 ?zzk6 ?zzk7 ?_; (case zzk1 => k_asm); (case zzk2 => k_asm); (case zzk3 => k_inst); (case zzk4 => k_is); (case zzk5 => k_is); (case zzk6 => k_is); (case zzk7 => k_get); k_whole) | (refine' kmu_own ?zzk1 ?zzk2 ?zzk3 ?zzk4 ?zzk5 ?_; (case zzk1 => k_asm); (case zzk2 => k_asm); (case zzk3 => k_inst); (case zzk4 => k_is); (case zzk5 => k_is); k_whole) | (refine' kmu_sm ?zzk1 ?zzk2 ?zzk4 ?zzk5 ?zzk6 ?zzk7 ?zzk8 ?zzk9 ?zzk10 ?zzk11 ?zzk12 ?zzk13 ?zzk14 ?_; (case zzk1 => k_asm); (case zzk2 => k_asm); (case zzk4 => k_inst); (case zzk5 => k_is); (case zzk6 => k_is); (case zzk7 => k_is); (case zzk8 => k_is); (case zzk9 => k_is); (case zzk10 => k_is); (case zzk11 => decide +kernel); (case zzk12 => k_get); (case zzk13 => k_is); (case zzk14 => k_handed); k_whole))))) | walk1))
  refine ⟨D, .ref l, kd, _, _, rfl, rfl, by k_asm, by k_asm, by (first | walk_at "mm" | k_mem), ?_⟩
  intro I9 oI9 h9 tk9 E9 l9 F9 N9
  clear F' N'
  k_lt l9
  k_sweep
  repeat' ((fail_if_success (with_reducible show wpAny _ _ (eval (Expr.GeneratorExp _ _ _ _) _) _ _ _)); (first | (k_unfold; (try dsimp only)) | ((with_reducible refine qb1 ?_); (try dsimp only)) | ((with_reducible refine qb2 ?_); (try dsimp only)) | ((with_reducible refine qa1 ?_); (try dsimp only)) | ((with_reducible refine qa2 ?_); (try dsimp only [List.cons_append, List.nil_append])) | ((with_reducible refine qs1 ?_); (try dsimp only)) | ((with_reducible refine qs2 ?_); (try dsimp only)) | (with_reducible refine qs3 ?_) | (with_reducible refine qs4 ?_) | ((with_reducible refine qc1 ?_); (try dsimp only)) | ((with_reducible refine qu1 ?_); (try dsimp only)) | (with_reducible refine qu2 ?_) | ((with_reducible refine qg1 ?_); (try dsimp only)) | (with_reducible refine qg2 ?_) | ((with_reducible refine qt1 ?_); (try dsimp only)) | ((with_reducible refine qr1 ?_); (try dsimp only)) | (with_reducible refine qb0 ?_) | (with_reducible refine qu0 ?_) | ((with_reducible show wpAny _ _ (spliced (backTo _ (starEach (_ :: _) _))) _ _ _); k_dflt (refine qa0 ?_)) | ((with_reducible show wpAny _ _ (execs (_ :: _) _) _ _ _); first | (k_here; k_gentoks) | (with_reducible refine qs0 ?_)) | ((with_reducible show wpAny _ _ (eval (PySem.Expr.Call (PySem.Expr.Name _ _) _ [] _) _) _ _ _); (fail_if_success (with_reducible show wpAny _ _ (eval _ (compEnvC _ _ _ _)) _ _ _)); k_dflt (refine qc0 ?_)) | ((with_reducible show wpAny _ _ (exec (Stmt.Assign [PySem.Expr.Name _ _] _ _) _) _ _ _); (fail_if_success (with_reducible show wpAny _ _ (exec (Stmt.Assign _ (PySem.Expr.ListComp _ _ _ _) _) _) _ _ _)); k_dflt (refine qg0 ?_)) | ((with_reducible show wpAny _ _ (eval (PySem.Expr.Attribute (PySem.Expr.Name _ _) _ _) _) _ _ _); k_dflt (refine qt0 ?_)) | (with_reducible refine qr0 ?_) | ((with_reducible show wpAny _ _ (call (Value.ref _) _ _) _ _ _); first | (with_reducible (k_here; (with_reducible show wpAny _ _ (call (Value.ref 662) _ _) _ _ _); (k_dflt (show wpAny _ _ (call (Value.ref 662) [Value.ref _, Value.ref _] [(Str.ofString "transpose", Value.bool _)]) _ _ _)); k_dflt (refine' mat_use ?zzk1 ?zzk2 ?zzk3 ?zzk4 ?zzk5 ?zzk6 ?zzm1 ?zzm2 ?zzm3 ?zzm4 ?zzz1 ?zzd1 ?_; (case zzk1 => k_asm); (case zzk2 => k_asm); (case zzk3 => k_asm); (case zzk4 => k_asm); (case zzk5 => k_asm); (case zzk6 => first | exact rfl | assumption); (case zzm1 => (first | walk_at "mm" | k_mem)); (case zzm2 => (first | walk_at "mm" | k_mem)); (case zzm3 => (first | walk_at "mm" | k_mem)); (case zzm4 => (first | walk_at "mm" | k_mem)); (case zzz1 => first | assumption | decide); (case zzd1 => ktr_room); k_whole); (intro x9 dx9 t9 u9 v9 h9 tk9 g9 gg9 F9 N9 k9; clear k9); (try k_sweep)))) | ((with_reducible show wpAny _ _ (eval (PySem.Expr.Name _ _) _) _ _ _); (with_reducible (k_here; (with_reducible show wpAny _ _ (eval (Expr.Name _ _) (genEnv _ _ _ _ _ _)) _ _ _); k_dflt (first | refine nameE_L (by k_asm) (by first | assumption | exact rfl) ?_ | refine nameE_F (by k_asm) (by exact rfl) (by (first | walk_at "mm" | k_mem)) (by first | rfl | assumption) ?_ | refine nameE_K (by k_asm) (by k_asm) (by k_asm) (by k_is) ?_ | refine nameE_B (by k_asm) (by k_asm) (by k_asm) (by k_is) (by boot_by_name) (by decide) ?_)))) | ((with_reducible show wpAny _ _ (setItem (Value.ref _) (Value.int _ _) _) _ _ _); (with_reducible (k_here; (with_reducible show wpAny _ _ (setItem (Value.ref _) (Value.int _ _) _) _ _ _); k_dflt (refine' set_here ?zzk1 ?zzk2 ?zzk3 ?zzk4 ?zzk5 ?zzk6 ?zzk7 ?_; (case zzk1 => k_asm); (case zzk2 => k_asm); (case zzk3 => k_upd); (case zzk4 => decide); (case zzk5 => simp; done); (case zzk6 => decide); (case zzk7 => exact rfl); k_whole); intro h' F' N'; (simp only [List.setIfInBounds_toArray, Int.toNat_zero, Int.reduceToNat, List.set_cons_zero, List.set_cons_succ] at N'); (try k_sweep)))) | ((with_reducible show wpAny _ _ (getMethod (Value.ref _) _ _) _ _ _); (with_reducible (k_here; k_dflt (first | (refine' method_inst ?zzk1 ?zzk2 ?zzk3 ?zzk4 ?zzk5 ?zzk6 ?zzk7 ?_; (case zzk1 => k_asm); (case zzk2 => k_asm); (case zzk3 => k_inst); (case zzk4 => k_is); (case zzk5 => k_is); (case zzk6 => k_is); (case zzk7 => k_get); k_whole) | (refine' kmu_own ?zzk1 ?zzk2 ?zzk3 ?zzk4 ?zzk5 ?_; (case zzk1 => k_asm); (case zzk2 => k_asm); (case zzk3 => k_inst); (case zzk4 => k_is); (case zzk5 => k_is); k_whole) | (refine' kmu_sm ?zzk1 ?zzk2 ?zzk4 ?zzk5 ?zzk6 ?zzk7 ?zzk8 ?zzk9 ?zzk10 ?zzk11 ?zzk12 ?zzk13 ?zzk14 ?_; (case zzk1 => k_asm); (case zzk2 => k_asm); (case zzk4 => k_inst); (case zzk5 => k_is); (case zzk6 => k_is); (case zzk7 => k_is); (case zzk8 => k_is); (case zzk9 => k_is); (case zzk10 => k_is); (case zzk11 => decide +kernel); (case zzk12 => k_get); (case zzk13 => k_is); (case zzk14 => k_handed); k_whole))))) | walk1 | dsimp only))
  with_unfolding_all refine' genexp_of (cl := []) ?hco ?hclos ?hcell ?h0 ?hkind ?hroom ?hgen ?hs
  case hco => exact rfl
  case hclos => exact rfl
  case hcell => decide
  case h0 => exact rfl
  case hkind => exact rfl
  case hroom => ktr_room
  case hs => intro _; rfl
  case hgen =>
    (first | ((with_reducible refine qb1 ?_); (try dsimp only)) | ((with_reducible refine qb2 ?_); (try dsimp only)) | ((with_reducible refine qa1 ?_); (try dsimp only)) | ((with_reducible refine qa2 ?_); (try dsimp only [List.cons_append, List.nil_append])) | ((with_reducible refine qs1 ?_); (try dsimp only)) | ((with_reducible refine qs2 ?_); (try dsimp only)) | (with_reducible refine qs3 ?_) | (with_reducible refine qs4 ?_) | ((with_reducible refine qc1 ?_); (try dsimp only)) | ((with_reducible refine qu1 ?_); (try dsimp only)) | (with_reducible refine qu2 ?_) | ((with_reducible refine qg1 ?_); (try dsimp only)) | (with_reducible refine qg2 ?_) | ((with_reducible refine qt1 ?_); (try dsimp only)) | ((with_reducible refine qr1 ?_); (try dsimp only)) | (with_reducible refine qb0 ?_) | (with_reducible refine qu0 ?_) | ((with_reducible show wpAny _ _ (spliced (backTo _ (starEach (_ :: _) _))) _ _ _); k_dflt (refine qa0 ?_)) | ((with_reducible show wpAny _ _ (execs (_ :: _) _) _ _ _); first | (k_here; k_gentoks) | (with_reducible refine qs0 ?_)) | ((with_reducible show wpAny _ _ (eval (PySem.Expr.Call (PySem.Expr.Name _ _) _ [] _) _) _ _ _); (fail_if_success (with_reducible show wpAny _ _ (eval _ (compEnvC _ _ _ _)) _ _ _)); k_dflt (refine qc0 ?_)) | ((with_reducible show wpAny _ _ (exec (Stmt.Assign [PySem.Expr.Name _ _] _ _) _) _ _ _); (fail_if_success (with_reducible show wpAny _ _ (exec (Stmt.Assign _ (PySem.Expr.ListComp _ _ _ _) _) _) _ _ _)); k_dflt (refine qg0 ?_)) | ((with_reducible show wpAny _ _ (eval (PySem.Expr.Attribute (PySem.Expr.Name _ _) _ _) _) _ _ _); k_dflt (refine qt0 ?_)) | (with_reducible refine qr0 ?_) | ((with_reducible show wpAny _ _ (call (Value.ref _) _ _) _ _ _); first | (with_reducible (k_here; (with_reducible show wpAny _ _ (call (Value.ref 662) _ _) _ _ _); (k_dflt (show wpAny _ _ (call (Value.ref 662) [Value.ref _, Value.ref _] [(Str.ofString "transpose", Value.bool _)]) _ _ _)); k_dflt (refine' mat_use ?zzk1 ?zzk2 ?zzk3 ?zzk4 ?zzk5 ?zzk6 ?zzm1 ?zzm2 ?zzm3 ?zzm4 ?zzz1 ?zzd1 ?_; (case zzk1 => k_asm); (case zzk2 => k_asm); (case zzk3 => k_asm); (case zzk4 => k_asm); (case zzk5 => k_asm); (case zzk6 => first | exact rfl | assumption); (case zzm1 => (first | walk_at "mm" | k_mem)); (case zzm2 => (first | walk_at "mm" | k_mem)); (case zzm3 => (first | walk_at "mm" | k_mem)); (case zzm4 => (first | walk_at "mm" | k_mem)); (case zzz1 => first | assumption | decide); (case zzd1 => ktr_room); k_whole); (intro x9 dx9 t9 u9 v9 h9 tk9 g9 gg9 F9 N9 k9; clear k9); (try k_sweep)))) | ((with_reducible show wpAny _ _ (eval (PySem.Expr.Name _ _) _) _ _ _); (with_reducible (k_here; (with_reducible show wpAny _ _ (eval (Expr.Name _ _) (genEnv _ _ _ _ _ _)) _ _ _); k_dflt (first | refine nameE_L (by k_asm) (by first | assumption | exact rfl) ?_ | refine nameE_F (by k_asm) (by exact rfl) (by (first | walk_at "mm" | k_mem)) (by first | rfl | assumption) ?_ | refine nameE_K (by k_asm) (by k_asm) (by k_asm) (by k_is) ?_ | refine nameE_B (by k_asm) (by k_asm) (by k_asm) (by k_is) (by boot_by_name) (by decide) ?_)))) | ((with_reducible show wpAny _ _ (setItem (Value.ref _) (Value.int _ _) _) _ _ _); (with_reducible (k_here; (with_reducible show wpAny _ _ (setItem (Value.ref _) (Value.int _ _) _) _ _ _); k_dflt (refine' set_here ?zzk1 ?zzk2 ?zzk3 ?zzk4 ?zzk5 ?zzk6 ?zzk7 ?_; (case zzk1 => k_asm); (case zzk2 => k_asm); (case zzk3 => k_upd); (case zzk4 => decide); (case zzk5 => simp; done); (case zzk6 => decide); (case zzk7 => exact rfl); k_whole); intro h' F' N'; (simp only [List.setIfInBounds_toArray, Int.toNat_zero, Int.reduceToNat, List.set_cons_zero, List.set_cons_succ] at N'); (try k_sweep)))) | ((with_reducible show wpAny _ _ (getMethod (Value.ref _) _ _) _ _ _); (with_reducible (k_here; k_dflt (first | (refine' method_inst ?zzk1 ?zzk2 ?zzk3 ?zzk4 ?zzk5 ?zzk6 ?zzk7 ?_; (case zzk1 => k_asm); (case zzk2 => k_asm); (case zzk3 => k_inst); (case zzk4 => k_is); (case zzk5 => k_is); (case zzk6 => k_is); (case zzk7 => k_get); k_whole) | (refine' kmu_own ?zzk1 ?zzk2 ?zzk3 ?zzk4 ?zzk5 ?_; (case zzk1 => k_asm); (case zzk2 => k_asm); (case zzk3 => k_inst); (case zzk4 => k_is); (case zzk5 => k_is); k_whole) | (refine' kmu_sm ?zzk1 ?zzk2 ?zzk4 ?zzk5 ?zzk6 ?zzk7 ?zzk8 ?zzk9 ?zzk10 ?zzk11 ?zzk12 ?zzk13 ?zzk14 ?_; (case zzk1 => k_asm); (case zzk2 => k_asm); (case zzk4 => k_inst); (case zzk5 => k_is); (case zzk6 => k_is); (case zzk7 => k_is); (case zzk8 => k_is); (case zzk9 => k_is); (case zzk10 => k_is); (case zzk11 => decide +kernel); (case zzk12 => k_get); (case zzk13 => k_is); (case zzk14 => k_handed); k_whole))))) | walk1)
    k_dflt (refine' gen_listR (P := 362) (c := 366) (ax := l) (its := its) (kx := kl) (fun _ y _ _ => y = .bool true) ?kB ?kF ?kX ?kN ?kT ?hA ?hf ?hke ?hh ?hge ?hcode ?Cd ?U ht ?hco ?hx ?hkind ?hm ?helt ?hg)
    case kB => exact B'
    case kF => exact F9
    case kX => exact X'
    case kN => exact N9
    case kT => exact T'
    case hm => (first | walk_at "mm" | k_mem)
    case U => k_updF
    case hA => exact rfl
    case hf => exact rfl
    case hke => exact rfl
    case hh => exact rfl
    case hge => exact rfl
    case hcode => exact rfl
    case Cd => exact codeHd_of_K (c := 366) (P := 362) X' (by kernel_rfl)
    case hco => exact rfl
    case hx => exact rfl
    case hkind => exact rfl
    case helt =>
      intro G C' I code ps' E' i vi hr s₂ m₂ hi hv hx F' N' BG XG TG lG hex
      (try dsimp only at N'); (try dsimp only at lG)
      clear F9 N9 B' X' T'
      k_fold
      rcases hit i vi hv with rfl | rfl
      all_goals repeat' (first | (k_unfold; (try dsimp only)) | ((with_reducible refine qb1 ?_); (try dsimp only)) | ((with_reducible refine qb2 ?_); (try dsimp only)) | ((with_reducible refine qa1 ?_); (try dsimp only)) | ((with_reducible refine qa2 ?_); (try dsimp only [List.cons_append, List.nil_append])) | ((with_reducible refine qs1 ?_); (try dsimp only)) | ((with_reducible refine qs2 ?_); (try dsimp only)) | (with_reducible refine qs3 ?_) | (with_reducible refine qs4 ?_) | ((with_reducible refine qc1 ?_); (try dsimp only)) | ((with_reducible refine qu1 ?_); (try dsimp only)) | (with_reducible refine qu2 ?_) | ((with_reducible refine qg1 ?_); (try dsimp only)) | (with_reducible refine qg2 ?_) | ((with_reducible refine qt1 ?_); (try dsimp only)) | ((with_reducible refine qr1 ?_); (try dsimp only)) | (with_reducible refine qb0 ?_) | (with_reducible refine qu0 ?_) | ((with_reducible show wpAny _ _ (spliced (backTo _ (starEach (_ :: _) _))) _ _ _); k_dflt (refine qa0 ?_)) | ((with_reducible show wpAny _ _ (execs (_ :: _) _) _ _ _); first | (k_here; k_gentoks) | (with_reducible refine qs0 ?_)) | ((with_reducible show wpAny _ _ (eval (PySem.Expr.Call (PySem.Expr.Name _ _) _ [] _) _) _ _ _); (fail_if_success (with_reducible show wpAny _ _ (eval _ (compEnvC _ _ _ _)) _ _ _)); k_dflt (refine qc0 ?_)) | ((with_reducible show wpAny _ _ (exec (Stmt.Assign [PySem.Expr.Name _ _] _ _) _) _ _ _); (fail_if_success (with_reducible show wpAny _ _ (exec (Stmt.Assign _ (PySem.Expr.ListComp _ _ _ _) _) _) _ _ _)); k_dflt (refine qg0 ?_)) | ((with_reducible show wpAny _ _ (eval (PySem.Expr.Attribute (PySem.Expr.Name _ _) _ _) _) _ _ _); k_dflt (refine qt0 ?_)) | (with_reducible refine qr0 ?_) | ((with_reducible show wpAny _ _ (call (Value.ref _) _ _) _ _ _); first | (with_reducible (k_here; (with_reducible show wpAny _ _ (call (Value.ref 662) _ _) _ _ _); (k_dflt (show wpAny _ _ (call (Value.ref 662) [Value.ref _, Value.ref _] [(Str.ofString "transpose", Value.bool _)]) _ _ _)); k_dflt (refine' mat_use ?zzk1 ?zzk2 ?zzk3 ?zzk4 ?zzk5 ?zzk6 ?zzm1 ?zzm2 ?zzm3 ?zzm4 ?zzz1 ?zzd1 ?_; (case zzk1 => k_asm); (case zzk2 => k_asm); (case zzk3 => k_asm); (case zzk4 => k_asm); (case zzk5 => k_asm); (case zzk6 => first | exact rfl | assumption); (case zzm1 => (first | walk_at "mm" | k_mem)); (case zzm2 => (first | walk_at "mm" | k_mem)); (case zzm3 => (first | walk_at "mm" | k_mem)); (case zzm4 => (first | walk_at "mm" | k_mem)); (case zzz1 => first | assumption | decide); (case zzd1 => ktr_room); k_whole); (intro x9 dx9 t9 u9 v9 h9 tk9 g9 gg9 F9 N9 k9; clear k9); (try k_sweep)))) | ((with_reducible show wpAny _ _ (eval (PySem.Expr.Name _ _) _) _ _ _); (with_reducible (k_here; (with_reducible show wpAny _ _ (eval (Expr.Name _ _) (genEnv _ _ _ _ _ _)) _ _ _); k_dflt (first | refine nameE_L (by k_asm) (by first | assumption | exact rfl) ?_ | refine nameE_F (by k_asm) (by exact rfl) (by (first | walk_at "mm" | k_mem)) (by first | rfl | assumption) ?_ | refine nameE_K (by k_asm) (by k_asm) (by k_asm) (by k_is) ?_ | refine nameE_B (by k_asm) (by k_asm) (by k_asm) (by k_is) (by boot_by_name) (by decide) ?_)))) | ((with_reducible show wpAny _ _ (setItem (Value.ref _) (Value.int _ _) _) _ _ _); (with_reducible (k_here; (with_reducible show wpAny _ _ (setItem (Value.ref _) (Value.int _ _) _) _ _ _); k_dflt (refine' set_here ?zzk1 ?zzk2 ?zzk3 ?zzk4 ?zzk5 ?zzk6 ?zzk7 ?_; (case zzk1 => k_asm); (case zzk2 => k_asm); (case zzk3 => k_upd); (case zzk4 => decide); (case zzk5 => simp; done); (case zzk6 => decide); (case zzk7 => exact rfl); k_whole); intro h' F' N'; (simp only [List.setIfInBounds_toArray, Int.toNat_zero, Int.reduceToNat, List.set_cons_zero, List.set_cons_succ] at N'); (try k_sweep)))) | ((with_reducible show wpAny _ _ (getMethod (Value.ref _) _ _) _ _ _); (with_reducible (k_here; k_dflt (first | (refine' method_inst ?zzk1 ?zzk2 ?zzk3 ?zzk4 ?zzk5 ?zzk6 ?zzk7 ?_; (case zzk1 => k_asm); (case zzk2 => k_asm); (case zzk3 => k_inst); (case zzk4 => k_is); (case zzk5 => k_is); (case zzk6 => k_is); (case zzk7 => k_get); k_whole) | (refine' kmu_own ?zzk1 ?zzk2 ?zzk3 ?zzk4 ?zzk5 ?_; (case zzk1 => k_asm); (case zzk2 => k_asm); (case zzk3 => k_inst); (case zzk4 => k_is); (case zzk5 => k_is); k_whole) | (refine' kmu_sm ?zzk1 ?zzk2 ?zzk4 ?zzk5 ?zzk6 ?zzk7 ?zzk8 ?zzk9 ?zzk10 ?zzk11 ?zzk12 ?zzk13 ?zzk14 ?_; (case zzk1 => k_asm); (case zzk2 => k_asm); (case zzk4 => k_inst); (case zzk5 => k_is); (case zzk6 => k_is); (case zzk7 => k_is); (case zzk8 => k_is); (case zzk9 => k_is); (case zzk10 => k_is); (case zzk11 => decide +kernel); (case zzk12 => k_get); (case zzk13 => k_is); (case zzk14 => k_handed); k_whole))))) | (k_end; wrow_close) | walk1 | dsimp only | (leave1; try dsimp only) | fail "no step")
      all_goals
        k_dflt (refine' isi_call ?k1 ?k2 ?k3 ?k4 ?_)
        case k1 => exact XG.keeps F'.keep
        case k2 =>
          intro M
          k_dflt (refine' looks_news N' ?hm)
          case hm => (first | walk_at "mm" | k_mem)
        case k3 => k_is
        case k4 => intro e; cases e
      all_goals (k_unfold; (try dsimp only))
      all_goals exact ⟨rfl, _, _, rfl, fun _ _ e => e⟩
    case hg =>
      intro a1 gi C1 I1 h1 tk1 gens1 ps1 ht1 F1 N1 hst1 ne1 ne2 hlt1 hcs1 hcC1 hcw1 hI1 hb1 hb2 fC1 fI1 hk1
      dsimp only at fC1 fI1
      repeat' ((fail_if_success (with_reducible show wpAny _ _ (call (Value.builtin "all") _) _ _ _)); (first | (k_unfold; (try dsimp only)) | ((with_reducible refine qb1 ?_); (try dsimp only)) | ((with_reducible refine qb2 ?_); (try dsimp only)) | ((with_reducible refine qa1 ?_); (try dsimp only)) | ((with_reducible refine qa2 ?_); (try dsimp only [List.cons_append, List.nil_append])) | ((with_reducible refine qs1 ?_); (try dsimp only)) | ((with_reducible refine qs2 ?_); (try dsimp only)) | (with_reducible refine qs3 ?_) | (with_reducible refine qs4 ?_) | ((with_reducible refine qc1 ?_); (try dsimp only)) | ((with_reducible refine qu1 ?_); (try dsimp only)) | (with_reducible refine qu2 ?_) | ((with_reducible refine qg1 ?_); (try dsimp only)) | (with_reducible refine qg2 ?_) | ((with_reducible refine qt1 ?_); (try dsimp only)) | ((with_reducible refine qr1 ?_); (try dsimp only)) | (with_reducible refine qb0 ?_) | (with_reducible refine qu0 ?_) | ((with_reducible show wpAny _ _ (spliced (backTo _ (starEach (_ :: _) _))) _ _ _); k_dflt (refine qa0 ?_)) | ((with_reducible show wpAny _ _ (execs (_ :: _) _) _ _ _); first | (k_here; k_gentoks) | (with_reducible refine qs0 ?_)) | ((with_reducible show wpAny _ _ (eval (PySem.Expr.Call (PySem.Expr.Name _ _) _ [] _) _) _ _ _); (fail_if_success (with_reducible show wpAny _ _ (eval _ (compEnvC _ _ _ _)) _ _ _)); k_dflt (refine qc0 ?_)) | ((with_reducible show wpAny _ _ (exec (Stmt.Assign [PySem.Expr.Name _ _] _ _) _) _ _ _); (fail_if_success (with_reducible show wpAny _ _ (exec (Stmt.Assign _ (PySem.Expr.ListComp _ _ _ _) _) _) _ _ _)); k_dflt (refine qg0 ?_)) | ((with_reducible show wpAny _ _ (eval (PySem.Expr.Attribute (PySem.Expr.Name _ _) _ _) _) _ _ _); k_dflt (refine qt0 ?_)) | (with_reducible refine qr0 ?_) | ((with_reducible show wpAny _ _ (call (Value.ref _) _ _) _ _ _); first | (with_reducible (k_here; (with_reducible show wpAny _ _ (call (Value.ref 662) _ _) _ _ _); (k_dflt (show wpAny _ _ (call (Value.ref 662) [Value.ref _, Value.ref _] [(Str.ofString "transpose", Value.bool _)]) _ _ _)); k_dflt (refine' mat_use ?zzk1 ?zzk2 ?zzk3 ?zzk4 ?zzk5 ?zzk6 ?zzm1 ?zzm2 ?zzm3 ?zzm4 ?zzz1 ?zzd1 ?_; (case zzk1 => k_asm); (case zzk2 => k_asm); (case zzk3 => k_asm); (case zzk4 => k_asm); (case zzk5 => k_asm); (case zzk6 => first | exact rfl | assumption); (case zzm1 => (first | walk_at "mm" | k_mem)); (case zzm2 => (first | walk_at "mm" | k_mem)); (case zzm3 => (first | walk_at "mm" | k_mem)); (case zzm4 => (first | walk_at "mm" | k_mem)); (case zzz1 => first | assumption | decide); (case zzd1 => ktr_room); k_whole); (intro x9 dx9 t9 u9 v9 h9 tk9 g9 gg9 F9 N9 k9; clear k9); (try k_sweep)))) | ((with_reducible show wpAny _ _ (eval (PySem.Expr.Name _ _) _) _ _ _); (with_reducible (k_here; (with_reducible show wpAny _ _ (eval (Expr.Name _ _) (genEnv _ _ _ _ _ _)) _ _ _); k_dflt (first | refine nameE_L (by k_asm) (by first | assumption | exact rfl) ?_ | refine nameE_F (by k_asm) (by exact rfl) (by (first | walk_at "mm" | k_mem)) (by first | rfl | assumption) ?_ | refine nameE_K (by k_asm) (by k_asm) (by k_asm) (by k_is) ?_ | refine nameE_B (by k_asm) (by k_asm) (by k_asm) (by k_is) (by boot_by_name) (by decide) ?_)))) | ((with_reducible show wpAny _ _ (setItem (Value.ref _) (Value.int _ _) _) _ _ _); (with_reducible (k_here; (with_reducible show wpAny _ _ (setItem (Value.ref _) (Value.int _ _) _) _ _ _); k_dflt (refine' set_here ?zzk1 ?zzk2 ?zzk3 ?zzk4 ?zzk5 ?zzk6 ?zzk7 ?_; (case zzk1 => k_asm); (case zzk2 => k_asm); (case zzk3 => k_upd); (case zzk4 => decide); (case zzk5 => simp; done); (case zzk6 => decide); (case zzk7 => exact rfl); k_whole); intro h' F' N'; (simp only [List.setIfInBounds_toArray, Int.toNat_zero, Int.reduceToNat, List.set_cons_zero, List.set_cons_succ] at N'); (try k_sweep)))) | ((with_reducible show wpAny _ _ (getMethod (Value.ref _) _ _) _ _ _); (with_reducible (k_here; k_dflt (first | (refine' method_inst ?zzk1 ?zzk2 ?zzk3 ?zzk4 ?zzk5 ?zzk6 ?zzk7 ?_; (case zzk1 => k_asm); (case zzk2 => k_asm); (case zzk3 => k_inst); (case zzk4 => k_is); (case zzk5 => k_is); (case zzk6 => k_is); (case zzk7 => k_get); k_whole) | (refine' kmu_own ?zzk1 ?zzk2 ?zzk3 ?zzk4 ?zzk5 ?_; (case zzk1 => k_asm); (case zzk2 => k_asm); (case zzk3 => k_inst); (case zzk4 => k_is); (case zzk5 => k_is); k_whole) | (refine' kmu_sm ?zzk1 ?zzk2 ?zzk4 ?zzk5 ?zzk6 ?zzk7 ?zzk8 ?zzk9 ?zzk10 ?zzk11 ?zzk12 ?zzk13 ?zzk14 ?_; (case zzk1 => k_asm); (case zzk2 => k_asm); (case zzk4 => k_inst); (case zzk5 => k_is); (case zzk6 => k_is); (case zzk7 => k_is); (case zzk8 => k_is); (case zzk9 => k_is); (case zzk10 => k_is); (case zzk11 => decide +kernel); (case zzk12 => k_get); (case zzk13 => k_is); (case zzk14 => k_handed); k_whole))))) | walk1 | dsimp only))
      k_dflt (refine' call_allH (a := a1) (g := gi) (C := C1) (fp := List.range C1) (wr := [I1]) (n₀ := its.size) (FV := fun _ y _ _ => y = .bool true) ?hh ne1 ne2 ?hsub ?hroom hcs1 hcC1 hcw1 ?hF ?hst ?hQ)
      case hh => exact rfl
      case hsub => intro b hb; rw [List.mem_singleton.mp hb]; exact hI1
      case hroom => ktr_room
      case hF => exact fun _ _ _ _ q => q
      case hst => exact hst1
      case hQ =>
        intro h2 tk2 gs2 hk2 hg2
        have F2 := gen_fr F9 fC1 fI1 F1 hk2
        have N2 := gen_news (P := 362) (o := tabObj ps) (o' := tabObj ps1) (g := fun o' => [(I9, oI9), (362, o'), (Mo, instObj 673 dM), (dM, modDict w.params u1 R), (D, listOf #[.ref l] kd), (l, listOf its kl), (e1, instObj 581 d1), (e2, instObj 581 d2)]) (by k_updF) N9 fC1 fI1 N1 hk2
        (try dsimp only at N2)
        have hb3 := hb2 gs2 hg2
        clear F1 N1 hst1 hk2 hg2 hk1 hcs1 hcC1 hcw1 hlt1 ne1 ne2 hI1 hb1 hb2 fC1 fI1 F9 N9
        repeat' (first | (k_unfold; (try dsimp only)) | ((with_reducible refine qb1 ?_); (try dsimp only)) | ((with_reducible refine qb2 ?_); (try dsimp only)) | ((with_reducible refine qa1 ?_); (try dsimp only)) | ((with_reducible refine qa2 ?_); (try dsimp only [List.cons_append, List.nil_append])) | ((with_reducible refine qs1 ?_); (try dsimp only)) | ((with_reducible refine qs2 ?_); (try dsimp only)) | (with_reducible refine qs3 ?_) | (with_reducible refine qs4 ?_) | ((with_reducible refine qc1 ?_); (try dsimp only)) | ((with_reducible refine qu1 ?_); (try dsimp only)) | (with_reducible refine qu2 ?_) | ((with_reducible refine qg1 ?_); (try dsimp only)) | (with_reducible refine qg2 ?_) | ((with_reducible refine qt1 ?_); (try dsimp only)) | ((with_reducible refine qr1 ?_); (try dsimp only)) | (with_reducible refine qb0 ?_) | (with_reducible refine qu0 ?_) | ((with_reducible show wpAny _ _ (spliced (backTo _ (starEach (_ :: _) _))) _ _ _); k_dflt (refine qa0 ?_)) | ((with_reducible show wpAny _ _ (execs (_ :: _) _) _ _ _); first | (k_here; k_gentoks) | (with_reducible refine qs0 ?_)) | ((with_reducible show wpAny _ _ (eval (PySem.Expr.Call (PySem.Expr.Name _ _) _ [] _) _) _ _ _); (fail_if_success (with_reducible show wpAny _ _ (eval _ (compEnvC _ _ _ _)) _ _ _)); k_dflt (refine qc0 ?_)) | ((with_reducible show wpAny _ _ (exec (Stmt.Assign [PySem.Expr.Name _ _] _ _) _) _ _ _); (fail_if_success (with_reducible show wpAny _ _ (exec (Stmt.Assign _ (PySem.Expr.ListComp _ _ _ _) _) _) _ _ _)); k_dflt (refine qg0 ?_)) | ((with_reducible show wpAny _ _ (eval (PySem.Expr.Attribute (PySem.Expr.Name _ _) _ _) _) _ _ _); k_dflt (refine qt0 ?_)) | (with_reducible refine qr0 ?_) | ((with_reducible show wpAny _ _ (call (Value.ref _) _ _) _ _ _); first | (with_reducible (k_here; (with_reducible show wpAny _ _ (call (Value.ref 662) _ _) _ _ _); (k_dflt (show wpAny _ _ (call (Value.ref 662) [Value.ref _, Value.ref _] [(Str.ofString "transpose", Value.bool _)]) _ _ _)); k_dflt (refine' mat_use ?zzk1 ?zzk2 ?zzk3 ?zzk4 ?zzk5 ?zzk6 ?zzm1 ?zzm2 ?zzm3 ?zzm4 ?zzz1 ?zzd1 ?_; (case zzk1 => k_asm); (case zzk2 => k_asm); (case zzk3 => k_asm); (case zzk4 => k_asm); (case zzk5 => k_asm); (case zzk6 => first | exact rfl | assumption); (case zzm1 => (first | walk_at "mm" | k_mem)); (case zzm2 => (first | walk_at "mm" | k_mem)); (case zzm3 => (first | walk_at "mm" | k_mem)); (case zzm4 => (first | walk_at "mm" | k_mem)); (case zzz1 => first | assumption | decide); (case zzd1 => ktr_room); k_whole); (intro x9 dx9 t9 u9 v9 h9 tk9 g9 gg9 F9 N9 k9; clear k9); (try k_sweep)))) | ((with_reducible show wpAny _ _ (eval (PySem.Expr.Name _ _) _) _ _ _); (with_reducible (k_here; (with_reducible show wpAny _ _ (eval (Expr.Name _ _) (genEnv _ _ _ _ _ _)) _ _ _); k_dflt (first | refine nameE_L (by k_asm) (by first | assumption | exact rfl) ?_ | refine nameE_F (by k_asm) (by exact rfl) (by (first | walk_at "mm" | k_mem)) (by first | rfl | assumption) ?_ | refine nameE_K (by k_asm) (by k_asm) (by k_asm) (by k_is) ?_ | refine nameE_B (by k_asm) (by k_asm) (by k_asm) (by k_is) (by boot_by_name) (by decide) ?_)))) | ((with_reducible show wpAny _ _ (setItem (Value.ref _) (Value.int _ _) _) _ _ _); (with_reducible (k_here; (with_reducible show wpAny _ _ (setItem (Value.ref _) (Value.int _ _) _) _ _ _); k_dflt (refine' set_here ?zzk1 ?zzk2 ?zzk3 ?zzk4 ?zzk5 ?zzk6 ?zzk7 ?_; (case zzk1 => k_asm); (case zzk2 => k_asm); (case zzk3 => k_upd); (case zzk4 => decide); (case zzk5 => simp; done); (case zzk6 => decide); (case zzk7 => exact rfl); k_whole); intro h' F' N'; (simp only [List.setIfInBounds_toArray, Int.toNat_zero, Int.reduceToNat, List.set_cons_zero, List.set_cons_succ] at N'); (try k_sweep)))) | ((with_reducible show wpAny _ _ (getMethod (Value.ref _) _ _) _ _ _); (with_reducible (k_here; k_dflt (first | (refine' method_inst ?zzk1 ?zzk2 ?zzk3 ?zzk4 ?zzk5 ?zzk6 ?zzk7 ?_; (case zzk1 => k_asm); (case zzk2 => k_asm); (case zzk3 => k_inst); (case zzk4 => k_is); (case zzk5 => k_is); (case zzk6 => k_is); (case zzk7 => k_get); k_whole) | (refine' kmu_own ?zzk1 ?zzk2 ?zzk3 ?zzk4 ?zzk5 ?_; (case zzk1 => k_asm); (case zzk2 => k_asm); (case zzk3 => k_inst); (case zzk4 => k_is); (case zzk5 => k_is); k_whole) | (refine' kmu_sm ?zzk1 ?zzk2 ?zzk4 ?zzk5 ?zzk6 ?zzk7 ?zzk8 ?zzk9 ?zzk10 ?zzk11 ?zzk12 ?zzk13 ?zzk14 ?_; (case zzk1 => k_asm); (case zzk2 => k_asm); (case zzk4 => k_inst); (case zzk5 => k_is); (case zzk6 => k_is); (case zzk7 => k_is); (case zzk8 => k_is); (case zzk9 => k_is); (case zzk10 => k_is); (case zzk11 => decide +kernel); (case zzk12 => k_get); (case zzk13 => k_is); (case zzk14 => k_handed); k_whole))))) | (k_end; wrow_close) | walk1 | dsimp only | (leave1; try dsimp only) | fail "no step")
        refine ⟨rfl, h2, tk2, gs2, _, [(362, tabObj ps1), (Mo, instObj 673 dM), (dM, modDict w.params u1 R), (l, listOf its kl), (e1, instObj 581 d1), (e2, instObj 581 d2)], rfl, F2, News.sub N2 (by lcg_sub), ⟨by k_ne, by k_ne, by k_ne, by k_ne, by k_ne, by k_ne, trivial⟩, ?_⟩
        intro h4 tk4 F4 N4
        clear F2 N2
        k_sweep
        dsimp only
        repeat' (first | (k_unfold; (try dsimp only)) | ((with_reducible refine qb1 ?_); (try dsimp only)) | ((with_reducible refine qb2 ?_); (try dsimp only)) | ((with_reducible refine qa1 ?_); (try dsimp only)) | ((with_reducible refine qa2 ?_); (try dsimp only [List.cons_append, List.nil_append])) | ((with_reducible refine qs1 ?_); (try dsimp only)) | ((with_reducible refine qs2 ?_); (try dsimp only)) | (with_reducible refine qs3 ?_) | (with_reducible refine qs4 ?_) | ((with_reducible refine qc1 ?_); (try dsimp only)) | ((with_reducible refine qu1 ?_); (try dsimp only)) | (with_reducible refine qu2 ?_) | ((with_reducible refine qg1 ?_); (try dsimp only)) | (with_reducible refine qg2 ?_) | ((with_reducible refine qt1 ?_); (try dsimp only)) | ((with_reducible refine qr1 ?_); (try dsimp only)) | (with_reducible refine qb0 ?_) | (with_reducible refine qu0 ?_) | ((with_reducible show wpAny _ _ (spliced (backTo _ (starEach (_ :: _) _))) _ _ _); k_dflt (refine qa0 ?_)) | ((with_reducible show wpAny _ _ (execs (_ :: _) _) _ _ _); first | (k_here; k_gentoks) | (with_reducible refine qs0 ?_)) | ((with_reducible show wpAny _ _ (eval (PySem.Expr.Call (PySem.Expr.Name _ _) _ [] _) _) _ _ _); (fail_if_success (with_reducible show wpAny _ _ (eval _ (compEnvC _ _ _ _)) _ _ _)); k_dflt (refine qc0 ?_)) | ((with_reducible show wpAny _ _ (exec (Stmt.Assign [PySem.Expr.Name _ _] _ _) _) _ _ _); (fail_if_success (with_reducible show wpAny _ _ (exec (Stmt.Assign _ (PySem.Expr.ListComp _ _ _ _) _) _) _ _ _)); k_dflt (refine qg0 ?_)) | ((with_reducible show wpAny _ _ (eval (PySem.Expr.Attribute (PySem.Expr.Name _ _) _ _) _) _ _ _); k_dflt (refine qt0 ?_)) | (with_reducible refine qr0 ?_) | ((with_reducible show wpAny _ _ (call (Value.ref _) _ _) _ _ _); first | (with_reducible (k_here; (with_reducible show wpAny _ _ (call (Value.ref 662) _ _) _ _ _); (k_dflt (show wpAny _ _ (call (Value.ref 662) [Value.ref _, Value.ref _] [(Str.ofString "transpose", Value.bool _)]) _ _ _)); k_dflt (refine' mat_use ?zzk1 ?zzk2 ?zzk3 ?zzk4 ?zzk5 ?zzk6 ?zzm1 ?zzm2 ?zzm3 ?zzm4 ?zzz1 ?zzd1 ?_; (case zzk1 => k_asm); (case zzk2 => k_asm); (case zzk3 => k_asm); (case zzk4 => k_asm); (case zzk5 => k_asm); (case zzk6 => first | exact rfl | assumption); (case zzm1 => (first | walk_at "mm" | k_mem)); (case zzm2 => (first | walk_at "mm" | k_mem)); (case zzm3 => (first | walk_at "mm" | k_mem)); (case zzm4 => (first | walk_at "mm" | k_mem)); (case zzz1 => first | assumption | decide); (case zzd1 => ktr_room); k_whole); (intro x9 dx9 t9 u9 v9 h9 tk9 g9 gg9 F9 N9 k9; clear k9); (try k_sweep)))) | ((with_reducible show wpAny _ _ (eval (PySem.Expr.Name _ _) _) _ _ _); (with_reducible (k_here; (with_reducible show wpAny _ _ (eval (Expr.Name _ _) (genEnv _ _ _ _ _ _)) _ _ _); k_dflt (first | refine nameE_L (by k_asm) (by first | assumption | exact rfl) ?_ | refine nameE_F (by k_asm) (by exact rfl) (by (first | walk_at "mm" | k_mem)) (by first | rfl | assumption) ?_ | refine nameE_K (by k_asm) (by k_asm) (by k_asm) (by k_is) ?_ | refine nameE_B (by k_asm) (by k_asm) (by k_asm) (by k_is) (by boot_by_name) (by decide) ?_)))) | ((with_reducible show wpAny _ _ (setItem (Value.ref _) (Value.int _ _) _) _ _ _); (with_reducible (k_here; (with_reducible show wpAny _ _ (setItem (Value.ref _) (Value.int _ _) _) _ _ _); k_dflt (refine' set_here ?zzk1 ?zzk2 ?zzk3 ?zzk4 ?zzk5 ?zzk6 ?zzk7 ?_; (case zzk1 => k_asm); (case zzk2 => k_asm); (case zzk3 => k_upd); (case zzk4 => decide); (case zzk5 => simp; done); (case zzk6 => decide); (case zzk7 => exact rfl); k_whole); intro h' F' N'; (simp only [List.setIfInBounds_toArray, Int.toNat_zero, Int.reduceToNat, List.set_cons_zero, List.set_cons_succ] at N'); (try k_sweep)))) | ((with_reducible show wpAny _ _ (getMethod (Value.ref _) _ _) _ _ _); (with_reducible (k_here; k_dflt (first | (refine' method_inst ?zzk1 ?zzk2 ?zzk3 ?zzk4 ?zzk5 ?zzk6 ?zzk7 ?_; (case zzk1 => k_asm); (case zzk2 => k_asm); (case zzk3 => k_inst); (case zzk4 => k_is); (case zzk5 => k_is); (case zzk6 => k_is); (case zzk7 => k_get); k_whole) | (refine' kmu_own ?zzk1 ?zzk2 ?zzk3 ?zzk4 ?zzk5 ?_; (case zzk1 => k_asm); (case zzk2 => k_asm); (case zzk3 => k_inst); (case zzk4 => k_is); (case zzk5 => k_is); k_whole) | (refine' kmu_sm ?zzk1 ?zzk2 ?zzk4 ?zzk5 ?zzk6 ?zzk7 ?zzk8 ?zzk9 ?zzk10 ?zzk11 ?zzk12 ?zzk13 ?zzk14 ?_; (case zzk1 => k_asm); (case zzk2 => k_asm); (case zzk4 => k_inst); (case zzk5 => k_is); (case zzk6 => k_is); (case zzk7 => k_is); (case zzk8 => k_is); (case zzk9 => k_is); (case zzk10 => k_is); (case zzk11 => decide +kernel); (case zzk12 => k_get); (case zzk13 => k_is); (case zzk14 => k_handed); k_whole))))) | (k_end; wrow_close) | walk1 | dsimp only | (leave1; try dsimp only) | fail "no step")
        refine DoneG.intro (by k_asm) (by k_asm) hb3 ?_
        refine' ⟨⟨?sb, ps1, ht1, ?mp⟩, _, _, _, _, _, rfl, ?g1, ?g2, ?n1, ?e1, ?e2⟩
        case e1 => (first | walk_at "mm" | k_mem)
        case e2 => (first | walk_at "mm" | k_mem)
        case mp => (first | walk_at "mm" | k_mem)
        case sb => lcg_sub
        case n1 => k_ne
        case g1 => exact ⟨by k_ne, by k_ne, by k_ne, by k_ne, by k_ne, by k_ne, by k_ne, trivial⟩
        case g2 => exact ⟨by k_ne, by k_ne, by k_ne, by k_ne, by k_ne, by k_ne, by k_ne, trivial⟩
theorem mod_use2 {gg : Obj → List (Addr × Obj)} (B : Below A₀ base outer h₀) (F : Fr h₀ L s.heap m) (X : (hdK.heap_1_39 w.params).In h₀) (N : News h₀ L s.heap news) (T : Top p loose mean mg mb h₀) (hk : cs.kind = .function)
   {Mo dM R D l e1 e2 d1 d2 : Addr} {u1 : Tok} {its : Array Value} {kd kl : Nat} {b : Bool} {ps : Array Value}
   (U : UpdF 362 (tabObj ps) news gg) (ht : TriplesOk ps.toList)
   (m1 : (Mo, instObj 673 dM) ∈ news) (m2 : (dM, modDict w.params u1 R) ∈ news) (m3 : (D, listOf #[.ref l] kd) ∈ news) (m4 : (l, listOf its kl) ∈ news) (m5 : (e1, instObj 581 d1) ∈ news) (m6 : (e2, instObj 581 d2) ∈ news)
   (hit : ∀ (i : Nat) v, its[i]? = some v → v = .ref e1 ∨ v = .ref e2)
   (hsz : its.size < 8) (hd : dp + 80 < recursionLimit)
   (ret : ∀ x dx t1 t2 t3 h' tk' gens' ps', TriplesOk ps'.toList → GnNe dx (gg (tabObj ps')) → GnNe x ((dx, matDict w.params t1 t2 t3 Mo D b) :: gg (tabObj ps')) → Fr h₀ L h' m → News h₀ L h' ((x, instObj 638 dx) :: (dx, matDict w.params t1 t2 t3 Mo D b) :: gg (tabObj ps')) → KeepsBut [362] s.heap h' → (AllBare s.gens → AllBare gens') → Q (.ref x) {s with heap := h', toks := tk', gens := gens'}) :
   wpAny (model (PySem.Challenge.rw_yi0033_01.row.toRowW.prog) w) (ktrTop dp un gd cn cs L a ccd cl outer) (call (.ref Mo) [.ref D, .bool b]) Q E s := by
  have X1 := X.keeps F.keep
  refine wpAny_call ?_
  k_dflt (refine' kco_code ?k1 ?k2 ?k3 ?k4 ?k5 ?k6 ?_; (case k1 => k_in); (case k2 => exact InstAt.of_news N m1 m2); (case k3 => rfl); (case k4 => k_is); (case k5 => k_is); (case k6 => k_is); (try dsimp only))
  exact modcall_code B F X N T hk U ht m1 m2 m3 m4 m5 m6 hit hsz hd (fun fd oc od osl e => by cases e; k_dflt (first | exact BindsTo.of_eq rfl | exact binds_K X1 rfl (by k_is) rfl rfl rfl)) ret
theorem mod_use1 {gg : Obj → List (Addr × Obj)} (B : Below A₀ base outer h₀) (F : Fr h₀ L s.heap m) (X : (hdK.heap_1_39 w.params).In h₀) (N : News h₀ L s.heap news) (T : Top p loose mean mg mb h₀) (hk : cs.kind = .function)
   {Mo dM R D l e1 e2 d1 d2 : Addr} {u1 : Tok} {its : Array Value} {kd kl : Nat} {ps : Array Value}
   (U : UpdF 362 (tabObj ps) news gg) (ht : TriplesOk ps.toList)
   (m1 : (Mo, instObj 673 dM) ∈ news) (m2 : (dM, modDict w.params u1 R) ∈ news) (m3 : (D, listOf #[.ref l] kd) ∈ news) (m4 : (l, listOf its kl) ∈ news) (m5 : (e1, instObj 581 d1) ∈ news) (m6 : (e2, instObj 581 d2) ∈ news)
   (hit : ∀ (i : Nat) v, its[i]? = some v → v = .ref e1 ∨ v = .ref e2)
   (hsz : its.size < 8) (hd : dp + 80 < recursionLimit)
   (ret : ∀ x dx t1 t2 t3 h' tk' gens' ps', TriplesOk ps'.toList → GnNe dx (gg (tabObj ps')) → GnNe x ((dx, matDict w.params t1 t2 t3 Mo D false) :: gg (tabObj ps')) → Fr h₀ L h' m → News h₀ L h' ((x, instObj 638 dx) :: (dx, matDict w.params t1 t2 t3 Mo D false) :: gg (tabObj ps')) → KeepsBut [362] s.heap h' → (AllBare s.gens → AllBare gens') → Q (.ref x) {s with heap := h', toks := tk', gens := gens'}) :
   wpAny (model (PySem.Challenge.rw_yi0033_01.row.toRowW.prog) w) (ktrTop dp un gd cn cs L a ccd cl outer) (call (.ref Mo) [.ref D]) Q E s := by
  have X1 := X.keeps F.keep
  refine wpAny_call ?_
  k_dflt (refine' kco_code ?k1 ?k2 ?k3 ?k4 ?k5 ?k6 ?_; (case k1 => k_in); (case k2 => exact InstAt.of_news N m1 m2); (case k3 => rfl); (case k4 => k_is); (case k5 => k_is); (case k6 => k_is); (try dsimp only))
  exact modcall_code B F X N T hk U ht m1 m2 m3 m4 m5 m6 hit hsz hd (fun fd oc od osl e => by cases e; k_dflt (first | exact BindsTo.of_eq rfl | exact binds_K X1 rfl (by k_is) rfl rfl rfl)) ret
end
set_option maxRecDepth 100000
set_option maxHeartbeats 4000000
section
variable {prog : Program} {w : World} {M : Model} {A : Around} {E : Value → Shared → Prop} {s : Shared} {K : Frag} {x C L : Addr} {h₀ : Heap} {m : Str → Option Value} {ox : Obj} {od : Option Obj}
theorem ifBound_B {name : Str} {id : String} {args : List Value} {Q : Option Value → Shared → Prop} (X : K.In s.heap) (I : InstAt s.heap x ox C od) (hs : findIn K (.ref C) name = some (some (.builtin id))) (S : Slot "object" name id)
    (h : wpAny M A (call (.builtin id) (.ref x :: args)) (fun v => Q (some v)) E s) : wpAny M A (callSpecialIfBound? (.ref x) name args) Q E s := by
  simp only [callSpecialIfBound?, bindSpecialIfBound?]
  refine wpAny_holding (wpAny_bind (wpAny_bind (wpAny_bind (I.type.here ((looks_findIn X hs).here ?_)))))
  simp only [S.bind]
  refine wpAny_bind (wpAny_askSetting (wpAny_ite ?_))
  have fin : wpAny M A (call (.builtin id) ([.ref x] ++ args) >>= fun v => pure (some v)) Q E s := wpAny_bind (wpAny_mono h (fun v s' h' => wpAny_pure h') fun _ _ h' => h')
  split
  · exact wpAny_bind (wpAny_pure (wpAny_pure fin))
  · exact wpAny_tryCatch (wpAny_bind (wpAny_pure (wpAny_pure fin)))
theorem special_eqK {Q : Option Value → Shared → Prop} (X : K.In s.heap) (I : InstAt s.heap x ox C od) (he : findIn K (.ref C) "__eq__" = some (some (.builtin "object.__eq__"))) (hm : mroIn K C (.type "object") = some true)
    (hq : Q (some (.bool true)) s) : wpAny (model prog w) A (callSpecialIfBound? (.ref x) "__eq__" [.ref x]) Q E s := by
  have sub : Looks (model prog w) s.heap (isInstance (.ref x) (.type "object")) true := I.type.andThen (looks_mroIn X hm)
  refine ifBound_B X I he F.cmp_object.eq (wpAny_call (codeAny_call_builtin F.cmp_object.eq.plain F.cmpEntry_eq ?_))
  with_reducible refine check_slot F.cmpKind_eq F.cmpSplit_eq sub (F.cmpArgs_eq _ _) ?_
  exact objEq_entry_same hq
theorem ne_same {Q : Value → Shared → Prop} (hu : A.units + 1 < cLine) (Fh : Fr h₀ L s.heap m) (X₀ : K.In h₀) (I : InstAt s.heap x ox C od) (he : findIn K (.ref C) "__eq__" = some (some (.builtin "object.__eq__"))) (hn : findIn K (.ref C) "__ne__" = some (some (.builtin "object.__ne__")))
    (hm : mroIn K C (.type "object") = some true) (hq : Q (.bool false) s) : wpAny (model prog w) A (compareOp .NotEq (.ref x) (.ref x)) Q E s := by
  have X := X₀.keeps Fh.keep
  have sub : Looks (model prog w) s.heap (isInstance (.ref x) (.type "object")) true := I.type.andThen (looks_mroIn X hm)
  have hu0 : A.units < cLine := Nat.lt_of_succ_lt hu
  refine cmp_ofNotEq ?_
  have one : wpAny (model prog w) A (tryCompare (.ref x) "__ne__" (.ref x)) (fun r s' => r = some (.bool false) ∧ s' = s) E s := by
    unfold tryCompare
    refine wpAny_bind (ifBound_B X I hn F.cmp_object.ne (wpAny_call (codeAny_call_builtin F.cmp_object.ne.plain F.cmpEntry_ne ?_)))
    with_reducible refine check_slot F.cmpKind_ne F.cmpSplit_ne sub (F.cmpArgs_ne _ _) ?_
    unfold Builtin.«object.__ne__»
    repeat (first | with_reducible refine wpAny_cRoomFor (A := A.in1) hu ?_ | with_reducible refine special_eqK X I he hm ?_ | wp_step)
    all_goals first | rfl | exact ⟨rfl, rfl⟩ | exact ⟨_, rfl, rfl, rfl⟩ | exact ⟨_, rfl, wpAny_pure ⟨rfl, rfl⟩⟩
  unfold richCompare
  simp only [oneThing_ref]
  refine wpAny_holding (wpAny_bind (wpAny_cRoomFor hu0 ?_))
  rw [cmpInfo_NotEq]
  dsimp only
  refine wpAny_bind (I.type.here (wpAny_bind (I.type.here ?_)))
  rw [show (Value.ref C != Value.ref C) = false from by simp]
  simp only [Bool.false_eq_true, if_false]
  refine wpAny_bind (wpAny_pure ?_)
  simp only [Bool.false_eq_true, if_false]
  refine wpAny_bind (wpAny_mono one (fun r s' z => ?_) fun _ _ e => e)
  obtain ⟨rfl, rfl⟩ := z
  exact wpAny_pure hq
end
set_option maxRecDepth 100000
set_option maxHeartbeats 4000000
theorem DoneG.tab2 {s : Shared} {sub : List (Addr × Obj)} {P1 P2 : Addr} {t1 t2 : Obj} {R : Value → Heap → List (Addr × Obj) → Prop} {v : Value} {s' : Shared} (d : DoneG (hideAll s.heap (((P1, t1) :: (P2, t2) :: sub).map (·.1))) s R v s')
    (hs : ∀ p ∈ (P1, t1) :: (P2, t2) :: sub, s.heap.get? p.1 = some p.2) (same : ∀ v h led, R v h led → (∀ p ∈ sub, p ∈ led) ∧ ∃ ps1 ps2, TriplesOk ps1.toList ∧ TriplesOk ps2.toList ∧ (P1, tabObj ps1) ∈ led ∧ (P2, tabObj ps2) ∈ led) :
    ∃ h' tk gens' led ps1 ps2, s' = { s with heap := h', toks := tk, gens := gens' } ∧ KeepsBut [P1, P2] s.heap h' ∧ TriplesOk ps1.toList ∧ TriplesOk ps2.toList ∧ h'.get? P1 = some (tabObj ps1) ∧ h'.get? P2 = some (tabObj ps2) ∧
      (∀ p ∈ led, h'.get? p.1 = some p.2 ∧ (p.1 ∈ ((P1, t1) :: (P2, t2) :: sub).map (·.1) ∨ s.heap.get? p.1 = none)) ∧ (AllBare s.gens → AllBare gens') ∧ R v h' led := by
  obtain ⟨L', h', tk, gens', m', led, e, F, N, b, p⟩ := d
  obtain ⟨hsub, ps1, ps2, ht1, ht2, hP1, hP2⟩ := same _ _ _ p
  refine ⟨h', tk, gens', led, ps1, ps2, e, fun c o hc hn => ?_, ht1, ht2, (N _ hP1).1, (N _ hP2).1, fun q hq => ⟨(N q hq).1, ?_⟩, b, p⟩
  · by_cases hm : c ∈ ((P1, t1) :: (P2, t2) :: sub).map (·.1)
    · obtain ⟨q, hq, rfl⟩ := List.mem_map.mp hm
      rw [hs q hq] at hc
      cases hc
      rcases List.mem_cons.mp hq with rfl | hq
      · exact absurd (List.mem_cons_self ..) hn
      rcases List.mem_cons.mp hq with rfl | hq
      · exact absurd (List.mem_cons_of_mem _ (List.mem_cons_self ..)) hn
      · exact (N q (hsub q hq)).1
    · exact F.keep c o (hideAll_get _ hc hm)
  · by_cases ha : q.1 ∈ ((P1, t1) :: (P2, t2) :: sub).map (·.1)
    · exact .inl ha
    · refine .inr ?_
      cases hz : s.heap.get? q.1 with
      | none => rfl
      | some o => have := (N q hq).2.2; rw [hideAll_get _ hz ha] at this; cases this
theorem UpdF.stay {d c : Addr} {o o1 o' : Obj} {l : List (Addr × Obj)} {g : Obj → List (Addr × Obj)} (U : UpdF d o l g) (hm : (c, o1) ∈ l) (hne : c ≠ d) : (c, o1) ∈ g o' := by
  obtain ⟨a, b, rfl, hg, _⟩ := U.split
  rw [hg]
  rcases List.mem_append.mp hm with h1 | h1
  · exact List.mem_append_left _ h1
  · rcases List.mem_cons.mp h1 with h1 | h1
    · exact absurd (congrArg Prod.fst h1) hne
    · exact List.mem_append_right _ (.tail _ h1)
theorem top_YMm : True := by
  w_top off
  trivial
set_option maxRecDepth 100000
set_option maxHeartbeats 8000000
set_option rowWalk.seconds 0
section
variable {w : World} {p : Program} {loose : List Str} {mean : ExcName → Option Value} {mg mb : Str → Option Value} {dp un : Nat} {gd : Option (List Code)} {cn : Str} {cs : Scope} {a : Addr} {ccd : Value} {cl : List (Str × Addr)} {outer : List Env} {A₀ : Around} {base h₀ : Heap} {L : Addr} {m : Str → Option Value} {news : List (Addr × Obj)} {s : Shared} {Q E : Value → Shared → Prop}
theorem hc1 {C d : Addr} : (instObj C d).cls ≠ .none := by intro e; cases e
theorem hc2 {es : List DictEntry} {n : Nat} : (dictOf es n).cls ≠ .none := by intro e; cases e
theorem hc3 {its : Array Value} {n : Nat} : (listOf its n).cls ≠ .none := by intro e; cases e
def MmP (P : Params) (Mo R : Addr) (cL : List Int) (t1 t2 : Addr × Obj) (sub : List (Addr × Obj)) (v : Value) (_h : Heap) (led : List (Addr × Obj)) : Prop :=
  ((∀ p ∈ sub, p ∈ led) ∧ ∃ ps1 ps2, TriplesOk ps1.toList ∧ TriplesOk ps2.toList ∧ (t1.1, tabObj ps1) ∈ led ∧ (t2.1, tabObj ps2) ∈ led) ∧
  ∃ x dx D a y dy c t1' t2' t3' kd ka u1 u2 its kk, v = .ref x ∧ (x, instObj 638 dx) ∈ led ∧ (dx, matDict P t1' t2' t3' Mo D false) ∈ led ∧ (D, listOf #[.ref a] kd) ∈ led ∧ (a, listOf #[.ref y] ka) ∈ led ∧ (y, instObj 581 dy) ∈ led ∧ (dy, polyDict P u1 u2 R c) ∈ led ∧ (c, listOf its.toArray kk) ∈ led ∧ IntsAre its cL ∧
    GnNe x (t1 :: t2 :: sub) ∧ GnNe dx (t1 :: t2 :: sub) ∧ GnNe D (t1 :: t2 :: sub) ∧ GnNe a (t1 :: t2 :: sub) ∧ GnNe y (t1 :: t2 :: sub) ∧ GnNe dy (t1 :: t2 :: sub) ∧ GnNe c (t1 :: t2 :: sub)
theorem gn_above {L x : Addr} {l : List (Addr × Obj)} (h : ∀ p ∈ l, p.1 < L) (hx : L ≤ x) : GnNe x l := gnNe_of fun p hp => Nat.ne_of_lt (Nat.lt_of_lt_of_le (h p hp) hx)
theorem gn_addr {x : Addr} {l l' : List (Addr × Obj)} (h : ∀ p ∈ l, ∃ q ∈ l', q.1 = p.1) (g : GnNe x l') : GnNe x l := gnNe_of fun p hp => by
  obtain ⟨q, hq, e⟩ := h p hp
  rw [← e]; exact gn_ne g q hq
theorem gn_map {x : Addr} : ∀ {l l' : List (Addr × Obj)}, l.map (·.1) = l'.map (·.1) → GnNe x l → GnNe x l'
  | [], [], _, _ => trivial
  | [], _ :: _, h, _ => nomatch h
  | _ :: _, [], h, _ => nomatch h
  | p :: _, q :: _, h, g => ⟨fun e => g.1 ((List.cons.inj h).1.trans e), gn_map (List.cons.inj h).2 g.2⟩
theorem gn_sub {x : Addr} {l l' : List (Addr × Obj)} (hs : ∀ p ∈ l, p ∈ l') (g : GnNe x l') : GnNe x l := gnNe_of fun p hp => gn_ne g p (hs p hp)
theorem gn_lt2 {I D : Addr} {l : List (Addr × Obj)} (h : ∀ p ∈ l, p.1 < I) (k : I < D) : GnNe D l := gnNe_of fun p hp => Nat.ne_of_lt (Nat.lt_trans (h p hp) k)
theorem gn_tabs {x a1 a2 : Addr} {p1 p2 : Obj} {sub l' : List (Addr × Obj)} (g : GnNe x l') (h1 : ∃ o, (a1, o) ∈ l') (h2 : ∃ o, (a2, o) ∈ l') (hs : ∀ p ∈ sub, p ∈ l') : GnNe x ((a1, p1) :: (a2, p2) :: sub) := by
  obtain ⟨o1, h1⟩ := h1
  obtain ⟨o2, h2⟩ := h2
  have e1 : a1 ≠ x := gn_ne g (a1, o1) h1
  have e2 : a2 ≠ x := gn_ne g (a2, o2) h2
  exact ⟨e1, e2, gnNe_of fun p hp => gn_ne g p (hs p hp)⟩
theorem mem_addr {a : Addr} {o : Obj} {l : List (Addr × Obj)} (h : (a, o) ∈ l) : ∃ q ∈ l, q.1 = a := ⟨_, h, rfl⟩
theorem elt_fvs {M : Model} {A : Around} {t : Sem Value} {P : Params} {R : Addr} {p0 p1 cL : List Int} {i : Nat} {hr : Heap} (hc : (if i = 0 then p0 else p1) = cL) (hex : ∀ b o, hr.get? b = some o → ∃ o', s.heap.get? b = some o')
    (h : wpAny M A t (fun v s₃ => PolyAt P R cL v hr s₃.heap ∧ Keeps s s₃) E s) : wpAny M A t (fun y s₃ => FVs P R p0 p1 i y hr s₃.heap ∧ Keeps s s₃) E s :=
  wpAny_mono h (fun y s₃ q => ⟨⟨by rw [hc]; exact q.1, fun b o e => by
    obtain ⟨o', e'⟩ := hex b o e
    obtain ⟨_, h', tk, rfl, kk⟩ := q
    exact ⟨o', kk _ _ e'⟩⟩, q.2⟩) fun _ _ e => e
theorem matmul_use {g1' : Obj → List (Addr × Obj)} {g2' : Obj → Obj → List (Addr × Obj)} (B : Below A₀ base outer h₀) (F : Fr h₀ L s.heap m) (X : (hdK.heap_1_39 w.params).In h₀) (N : News h₀ L s.heap news) (T : Top p loose mean mg mb h₀) (hk : cs.kind = .function)
   {x1 dx1 Mo dM D1 a1 x2 dx2 D2 a2 y0 dy0 y1 dy1 z0 dz0 z1 dz1 R dR z f0 f1 g0 g1 : Addr} {t1 t2 t3 t4 t5 t6 b1 c1 c2 c3 c4 c5 c6 c7 e1 e2 e3 e4 e5 e6 e7 e8 : Tok} {kd1 kl1 kd2 kl2 kz kf0 kf1 kg0 kg1 : Nat} {zs fs0 fs1 gs0 gs1 : List Value} {fl0 fl1 gl0 gl1 : List Int} {ps1 ps2 : Array Value}
   (U1 : UpdF 362 (tabObj ps1) news g1') (U2 : ∀ o, UpdF 320 (tabObj ps2) (g1' o) (g2' o)) (ht1 : TriplesOk ps1.toList) (ht2 : TriplesOk ps2.toList)
   (m0 : (x1, instObj 638 dx1) ∈ news) (m1 : (dx1, matDict w.params t1 t2 t3 Mo D1 false) ∈ news) (m2 : (D1, listOf #[.ref a1] kd1) ∈ news) (m3 : (a1, listOf #[.ref y0, .ref y1] kl1) ∈ news) (m4 : (x2, instObj 638 dx2) ∈ news) (m5 : (dx2, matDict w.params t4 t5 t6 Mo D2 true) ∈ news) (m6 : (D2, listOf #[.ref a2] kd2) ∈ news) (m7 : (a2, listOf #[.ref z0, .ref z1] kl2) ∈ news) (m8 : (Mo, instObj 673 dM) ∈ news) (m9 : (dM, modDict w.params b1 R) ∈ news) (m10 : (R, instObj 437 dR) ∈ news) (m11 : (dR, ringDict w.params c1 c2 c3 c4 c5 c6 c7 z) ∈ news) (m12 : (z, listOf zs.toArray kz) ∈ news) (m13 : (y0, instObj 581 dy0) ∈ news) (m14 : (dy0, polyDict w.params e1 e2 R f0) ∈ news) (m15 : (f0, listOf fs0.toArray kf0) ∈ news) (m16 : (y1, instObj 581 dy1) ∈ news) (m17 : (dy1, polyDict w.params e3 e4 R f1) ∈ news) (m18 : (f1, listOf fs1.toArray kf1) ∈ news) (m19 : (z0, instObj 581 dz0) ∈ news) (m20 : (dz0, polyDict w.params e5 e6 R g0) ∈ news) (m21 : (g0, listOf gs0.toArray kg0) ∈ news) (m22 : (z1, instObj 581 dz1) ∈ news) (m23 : (dz1, polyDict w.params e7 e8 R g1) ∈ news) (m24 : (g1, listOf gs1.toArray kg1) ∈ news)
   (hZ : IntsAre zs zetaL) (hF0 : IntsAre fs0 fl0) (hF1 : IntsAre fs1 fl1) (hG0 : IntsAre gs0 gl0) (hG1 : IntsAre gs1 gl1) (lF0 : fl0.length = 256) (lF1 : fl1.length = 256) (lG0 : gl0.length = 256) (lG1 : gl1.length = 256) (sF0 : Small fl0) (sF1 : Small fl1) (sG0 : Small gl0) (sG1 : Small gl1)
   (hd : dp + 200 < recursionLimit) (hu1 : un + 100 < cLine)
   (ret : ∀ x dx D a y dy c t1' t2' t3' kd ka u1 u2 its kk h' tk' gens' ps1' ps2', TriplesOk ps1'.toList → TriplesOk ps2'.toList → IntsAre its (addP (mulP fl0 gl0 64) (mulP fl1 gl1 64)) → Fr h₀ L h' m →
     News h₀ L h' ((x, instObj 638 dx) :: (dx, matDict w.params t1' t2' t3' Mo D false) :: (D, listOf #[.ref a] kd) :: (a, listOf #[.ref y] ka) :: (y, instObj 581 dy) :: (dy, polyDict w.params u1 u2 R c) :: (c, listOf its.toArray kk) :: g2' (tabObj ps1') (tabObj ps2')) →
     GnNe x (g2' (tabObj ps1') (tabObj ps2')) → GnNe dx (g2' (tabObj ps1') (tabObj ps2')) → GnNe D (g2' (tabObj ps1') (tabObj ps2')) → GnNe a (g2' (tabObj ps1') (tabObj ps2')) → GnNe y (g2' (tabObj ps1') (tabObj ps2')) → GnNe dy (g2' (tabObj ps1') (tabObj ps2')) → GnNe c (g2' (tabObj ps1') (tabObj ps2')) →
     (AllBare s.gens → AllBare gens') → Q (.ref x) {s with heap := h', toks := tk', gens := gens'}) :
   wpAny (model (PySem.Challenge.rw_yi0033_01.row.toRowW.prog) w) (ktrTop dp un gd cn cs L a ccd cl outer) (call (.ref 323) [.ref x1, .ref x2]) Q E s := by
  have hsub : ∀ p ∈ [(x1, instObj 638 dx1), (dx1, matDict w.params t1 t2 t3 Mo D1 false), (D1, listOf #[.ref a1] kd1), (a1, listOf #[.ref y0, .ref y1] kl1), (x2, instObj 638 dx2), (dx2, matDict w.params t4 t5 t6 Mo D2 true), (D2, listOf #[.ref a2] kd2), (a2, listOf #[.ref z0, .ref z1] kl2), (Mo, instObj 673 dM), (dM, modDict w.params b1 R), (R, instObj 437 dR), (dR, ringDict w.params c1 c2 c3 c4 c5 c6 c7 z), (z, listOf zs.toArray kz), (y0, instObj 581 dy0), (dy0, polyDict w.params e1 e2 R f0), (f0, listOf fs0.toArray kf0), (y1, instObj 581 dy1), (dy1, polyDict w.params e3 e4 R f1), (f1, listOf fs1.toArray kf1), (z0, instObj 581 dz0), (dz0, polyDict w.params e5 e6 R g0), (g0, listOf gs0.toArray kg0), (z1, instObj 581 dz1), (dz1, polyDict w.params e7 e8 R g1), (g1, listOf gs1.toArray kg1)], p ∈ news := by
    repeat (first | exact List.forall_mem_nil _ | refine List.forall_mem_cons.mpr ⟨by assumption, ?_⟩)
  have n0 := UpdF.mem U1
  have n1 : (320, tabObj ps2) ∈ news := UpdF.mem' U1 (UpdF.mem (U2 default)) (by decide)
  have hcls : ∀ p ∈ [(x1, instObj 638 dx1), (dx1, matDict w.params t1 t2 t3 Mo D1 false), (D1, listOf #[.ref a1] kd1), (a1, listOf #[.ref y0, .ref y1] kl1), (x2, instObj 638 dx2), (dx2, matDict w.params t4 t5 t6 Mo D2 true), (D2, listOf #[.ref a2] kd2), (a2, listOf #[.ref z0, .ref z1] kl2), (Mo, instObj 673 dM), (dM, modDict w.params b1 R), (R, instObj 437 dR), (dR, ringDict w.params c1 c2 c3 c4 c5 c6 c7 z), (z, listOf zs.toArray kz), (y0, instObj 581 dy0), (dy0, polyDict w.params e1 e2 R f0), (f0, listOf fs0.toArray kf0), (y1, instObj 581 dy1), (dy1, polyDict w.params e3 e4 R f1), (f1, listOf fs1.toArray kf1), (z0, instObj 581 dz0), (dz0, polyDict w.params e5 e6 R g0), (g0, listOf gs0.toArray kg0), (z1, instObj 581 dz1), (dz1, polyDict w.params e7 e8 R g1), (g1, listOf gs1.toArray kg1)], p.2.cls ≠ .none := by
    repeat (first | exact List.forall_mem_nil _ | refine List.forall_mem_cons.mpr ⟨by first | exact hc1 | exact hc2 | exact hc3, ?_⟩)
  have h362 : GnNe 362 [(x1, instObj 638 dx1), (dx1, matDict w.params t1 t2 t3 Mo D1 false), (D1, listOf #[.ref a1] kd1), (a1, listOf #[.ref y0, .ref y1] kl1), (x2, instObj 638 dx2), (dx2, matDict w.params t4 t5 t6 Mo D2 true), (D2, listOf #[.ref a2] kd2), (a2, listOf #[.ref z0, .ref z1] kl2), (Mo, instObj 673 dM), (dM, modDict w.params b1 R), (R, instObj 437 dR), (dR, ringDict w.params c1 c2 c3 c4 c5 c6 c7 z), (z, listOf zs.toArray kz), (y0, instObj 581 dy0), (dy0, polyDict w.params e1 e2 R f0), (f0, listOf fs0.toArray kf0), (y1, instObj 581 dy1), (dy1, polyDict w.params e3 e4 R f1), (f1, listOf fs1.toArray kf1), (z0, instObj 581 dz0), (dz0, polyDict w.params e5 e6 R g0), (g0, listOf gs0.toArray kg0), (z1, instObj 581 dz1), (dz1, polyDict w.params e7 e8 R g1), (g1, listOf gs1.toArray kg1)] := gnNe_of fun p hp => UpdF.neq U1 (hsub p hp) (hcls p hp)
  have h320 : GnNe 320 [(x1, instObj 638 dx1), (dx1, matDict w.params t1 t2 t3 Mo D1 false), (D1, listOf #[.ref a1] kd1), (a1, listOf #[.ref y0, .ref y1] kl1), (x2, instObj 638 dx2), (dx2, matDict w.params t4 t5 t6 Mo D2 true), (D2, listOf #[.ref a2] kd2), (a2, listOf #[.ref z0, .ref z1] kl2), (Mo, instObj 673 dM), (dM, modDict w.params b1 R), (R, instObj 437 dR), (dR, ringDict w.params c1 c2 c3 c4 c5 c6 c7 z), (z, listOf zs.toArray kz), (y0, instObj 581 dy0), (dy0, polyDict w.params e1 e2 R f0), (f0, listOf fs0.toArray kf0), (y1, instObj 581 dy1), (dy1, polyDict w.params e3 e4 R f1), (f1, listOf fs1.toArray kf1), (z0, instObj 581 dz0), (dz0, polyDict w.params e5 e6 R g0), (g0, listOf gs0.toArray kg0), (z1, instObj 581 dz1), (dz1, polyDict w.params e7 e8 R g1), (g1, listOf gs1.toArray kg1)] := gnNe_of fun p hp => UpdF.neq (U2 (tabObj ps1)) (UpdF.stay U1 (hsub p hp) (fun q => gn_ne h362 p hp q)) (hcls p hp)
  clear hcls
  have N2 : News h₀ L s.heap (((362 : Addr), tabObj ps1) :: ((320 : Addr), tabObj ps2) :: [(x1, instObj 638 dx1), (dx1, matDict w.params t1 t2 t3 Mo D1 false), (D1, listOf #[.ref a1] kd1), (a1, listOf #[.ref y0, .ref y1] kl1), (x2, instObj 638 dx2), (dx2, matDict w.params t4 t5 t6 Mo D2 true), (D2, listOf #[.ref a2] kd2), (a2, listOf #[.ref z0, .ref z1] kl2), (Mo, instObj 673 dM), (dM, modDict w.params b1 R), (R, instObj 437 dR), (dR, ringDict w.params c1 c2 c3 c4 c5 c6 c7 z), (z, listOf zs.toArray kz), (y0, instObj 581 dy0), (dy0, polyDict w.params e1 e2 R f0), (f0, listOf fs0.toArray kf0), (y1, instObj 581 dy1), (dy1, polyDict w.params e3 e4 R f1), (f1, listOf fs1.toArray kf1), (z0, instObj 581 dz0), (dz0, polyDict w.params e5 e6 R g0), (g0, listOf gs0.toArray kg0), (z1, instObj 581 dz1), (dz1, polyDict w.params e7 e8 R g1), (g1, listOf gs1.toArray kg1)]) := News.sub N (List.forall_mem_cons.mpr ⟨n0, List.forall_mem_cons.mpr ⟨n1, hsub⟩⟩)
  clear m0 m1 m2 m3 m4 m5 m6 m7 m8 m9 m10 m11 m12 m13 m14 m15 m16 m17 m18 m19 m20 m21 m22 m23 m24 hsub
  refine wpAny_call ?_
  k_dflt (refine' code_SC (fun g => DoneG g s (MmP w.params Mo R (addP (mulP fl0 gl0 64) (mulP fl1 gl1 64)) (362, tabObj ps1) (320, tabObj ps2) [(x1, instObj 638 dx1), (dx1, matDict w.params t1 t2 t3 Mo D1 false), (D1, listOf #[.ref a1] kd1), (a1, listOf #[.ref y0, .ref y1] kl1), (x2, instObj 638 dx2), (dx2, matDict w.params t4 t5 t6 Mo D2 true), (D2, listOf #[.ref a2] kd2), (a2, listOf #[.ref z0, .ref z1] kl2), (Mo, instObj 673 dM), (dM, modDict w.params b1 R), (R, instObj 437 dR), (dR, ringDict w.params c1 c2 c3 c4 c5 c6 c7 z), (z, listOf zs.toArray kz), (y0, instObj 581 dy0), (dy0, polyDict w.params e1 e2 R f0), (f0, listOf fs0.toArray kf0), (y1, instObj 581 dy1), (dy1, polyDict w.params e3 e4 R f1), (f1, listOf fs1.toArray kf1), (z0, instObj 581 dz0), (dz0, polyDict w.params e5 e6 R g0), (g0, listOf gs0.toArray kg0), (z1, instObj 581 dz1), (dz1, polyDict w.params e7 e8 R g1), (g1, listOf gs1.toArray kg1)])) ?k1 ?k2 ?k3 N2 ?k5 ?kA ?kF ?kK ?k6 ?k7 ?k8 ?k9 ?kB ?kD ?_ ?fin ?c2 ?c3 ?c4; ((case kA => exact rfl); (case kF => first | exact rfl | assumption); (case kK => assumption); (case k1 => k_asm); (case k2 => k_asm); (case k3 => k_asm); (case k5 => k_asm); (case k6 => k_is); (case k7 => k_is); (case k8 => ktr_room); (case k9 => first | exact BindsTo.of_eq rfl | exact binds_K (by k_in) rfl (by k_is) rfl rfl rfl); (case kB => exact rfl); (case kD => decide +kernel); (case c2 => exact rfl); (case c3 => exact rfl); (case c4 => exact rfl)))
  case fin =>
    intro v s' d
    obtain ⟨h', tk, gens', led, ps1', ps2', rfl, k, ht1', ht2', eP1, eP2, hl, hb, hs, x, dx, D, a, y, dy, c, v1, v2, v3, kd, ka, u1, u2, its, kk, rfl, q1, q2, q3, q4, q5, q6, q7, hI, r1, r2, r3, r4, r5, r6, r7⟩ := DoneG.tab2 d (fun p hp => (N2 p hp).1) (fun _ _ _ q => q.1)
    have w1 := fresh_of hl q1 r1
    have w2 := fresh_of hl q2 r2
    have w3 := fresh_of hl q3 r3
    have w4 := fresh_of hl q4 r4
    have w5 := fresh_of hl q5 r5
    have w6 := fresh_of hl q6 r6
    have w7 := fresh_of hl q7 r7
    have F1 := Fr.after2 F N n0 n1 k
    have N1 := UpdF.after N U1 U2 k eP1 eP2
    have gg : ∀ d, s.heap.get? d = none → GnNe d (g2' (tabObj ps1') (tabObj ps2')) := fun d e => gn_upd (U2 _) (gn_upd U1 (fresh_ne N e))
    exact ret x dx D a y dy c v1 v2 v3 kd ka u1 u2 its kk h' tk gens' ps1' ps2' ht1' ht2' hI F1
      (fresh_news F w1 (fresh_news F w2 (fresh_news F w3 (fresh_news F w4 (fresh_news F w5 (fresh_news F w6 (fresh_news F w7 N1 (hl _ q7).1) (hl _ q6).1) (hl _ q5).1) (hl _ q4).1) (hl _ q3).1) (hl _ q2).1) (hl _ q1).1)
      (gg _ w1) (gg _ w2) (gg _ w3) (gg _ w4) (gg _ w5) (gg _ w6) (gg _ w7) hb
  intro g' L' h' tk' cells' F' N' Y' B' X' T' l1
  have hu9 : un + 3 + 1 < cLine := by omega
  have l1' := l1
  clear N2 N F X ret U1 U2 n0 n1
  k_lt l1
  k_cells Y'
  have gL1 := gnc1 l1'
  have gL2 := gnc2 l1'
  have gL3 := gnc3 l1'
  have gL4 := gnc4 l1'
  simp only [List.cons_append, List.nil_append] at N'
  with_reducible show wpAny _ _ _ _ _ _
  k_fold
  repeat' ((fail_if_success (with_reducible show wpAny _ _ (eval (Expr.ListComp _ _ _ _) _) _ _ _)); (first | (k_unfold; (try dsimp only)) | ((with_reducible refine qb1 ?_); (try dsimp only)) | ((with_reducible refine qb2 ?_); (try dsimp only)) | ((with_reducible refine qa1 ?_); (try dsimp only)) | ((with_reducible refine qa2 ?_); (try dsimp only [List.cons_append, List.nil_append])) | ((with_reducible refine qs1 ?_); (try dsimp only)) | ((with_reducible refine qs2 ?_); (try dsimp only)) | (with_reducible refine qs3 ?_) | (with_reducible refine qs4 ?_) | ((with_reducible refine qc1 ?_); (try dsimp only)) | ((with_reducible refine qu1 ?_); (try dsimp only)) | (with_reducible refine qu2 ?_) | ((with_reducible refine qg1 ?_); (try dsimp only)) | (with_reducible refine qg2 ?_) | ((with_reducible refine qt1 ?_); (try dsimp only)) | ((with_reducible refine qr1 ?_); (try dsimp only)) | (with_reducible refine qb0 ?_) | (with_reducible refine qu0 ?_) | ((with_reducible show wpAny _ _ (spliced (backTo _ (starEach (_ :: _) _))) _ _ _); k_dflt (refine qa0 ?_)) | ((with_reducible show wpAny _ _ (execs (_ :: _) _) _ _ _); first | (k_here; k_gentoks) | (with_reducible refine qs0 ?_)) | ((with_reducible show wpAny _ _ (eval (PySem.Expr.Call (PySem.Expr.Name _ _) _ [] _) _) _ _ _); (fail_if_success (with_reducible show wpAny _ _ (eval _ (compEnvC _ _ _ _)) _ _ _)); k_dflt (refine qc0 ?_)) | ((with_reducible show wpAny _ _ (exec (Stmt.Assign [PySem.Expr.Name _ _] _ _) _) _ _ _); (fail_if_success (with_reducible show wpAny _ _ (exec (Stmt.Assign _ (PySem.Expr.ListComp _ _ _ _) _) _) _ _ _)); k_dflt (refine qg0 ?_)) | ((with_reducible show wpAny _ _ (eval (PySem.Expr.Attribute (PySem.Expr.Name _ _) _ _) _) _ _ _); k_dflt (refine qt0 ?_)) | (with_reducible refine qr0 ?_) | ((with_reducible show wpAny _ _ (eval (PySem.Expr.Name _ _) _) _ _ _); (with_reducible (k_here; (with_reducible show wpAny _ _ (eval (Expr.Name _ _) (compEnvC _ _ _ _)) _ _ _); k_dflt (first | (refine' nameE_C ?zzk1 ?zzk2 ?zzk3 ?zzk4 ?_ ?zzk5 ?zzk6 ?zzk7; (case zzk6 => exact rfl); (case zzk1 => k_asm); (case zzk2 => exact rfl); (case zzk3 => (first | walk_at "mm" | k_mem)); (case zzk4 => first | assumption | exact rfl); (case zzk5 => exact rfl); (case zzk7 => decide); k_whole) | refine nameE_K (by k_asm) (by k_asm) (by k_asm) (by k_is) ?_ | refine nameE_B (by k_asm) (by k_asm) (by k_asm) (by k_is) (by boot_by_name) (by decide) ?_)))) | ((with_reducible show wpAny _ _ (compareOp _ (Value.ref _) (Value.ref _)) _ _ _); (with_reducible (k_here; (with_reducible show wpAny _ _ (compareOp CmpOp.NotEq (Value.ref _) (Value.ref _)) _ _ _); k_dflt (refine' ne_same ?zzk0 ?zzk1 ?zzk2 ?zzk3 ?zzk4 ?zzk5 ?zzk6 ?_; (case zzk1 => k_asm); (case zzk2 => k_asm); (case zzk3 => k_inst); (case zzk4 => k_is); (case zzk5 => k_is); (case zzk6 => k_is); (case zzk0 => first | assumption | k_units); k_whole)))) | ((with_reducible show wpAny _ _ (setItem (Value.ref _) (Value.int _ _) _) _ _ _); (with_reducible (k_here; (with_reducible show wpAny _ _ (setItem (Value.ref _) (Value.int _ _) _) _ _ _); k_dflt (refine' set_here ?zzk1 ?zzk2 ?zzk3 ?zzk4 ?zzk5 ?zzk6 ?zzk7 ?_; (case zzk1 => k_asm); (case zzk2 => k_asm); (case zzk3 => k_upd); (case zzk4 => decide); (case zzk5 => simp; done); (case zzk6 => decide); (case zzk7 => exact rfl); k_whole); intro h' F' N'; (simp only [List.setIfInBounds_toArray, Int.toNat_zero, Int.reduceToNat, List.set_cons_zero, List.set_cons_succ] at N'); (try k_sweep)))) | ((with_reducible show wpAny _ _ (getMethod (Value.ref _) _ _) _ _ _); (with_reducible (k_here; k_dflt (first | (refine' method_inst ?zzk1 ?zzk2 ?zzk3 ?zzk4 ?zzk5 ?zzk6 ?zzk7 ?_; (case zzk1 => k_asm); (case zzk2 => k_asm); (case zzk3 => k_inst); (case zzk4 => k_is); (case zzk5 => k_is); (case zzk6 => k_is); (case zzk7 => k_get); k_whole) | (refine' kmu_own ?zzk1 ?zzk2 ?zzk3 ?zzk4 ?zzk5 ?_; (case zzk1 => k_asm); (case zzk2 => k_asm); (case zzk3 => k_inst); (case zzk4 => k_is); (case zzk5 => k_is); k_whole) | (refine' kmu_sm ?zzk1 ?zzk2 ?zzk4 ?zzk5 ?zzk6 ?zzk7 ?zzk8 ?zzk9 ?zzk10 ?zzk11 ?zzk12 ?zzk13 ?zzk14 ?_; (case zzk1 => k_asm); (case zzk2 => k_asm); (case zzk4 => k_inst); (case zzk5 => k_is); (case zzk6 => k_is); (case zzk7 => k_is); (case zzk8 => k_is); (case zzk9 => k_is); (case zzk10 => k_is); (case zzk11 => decide +kernel); (case zzk12 => k_get); (case zzk13 => k_is); (case zzk14 => k_handed); k_whole))))) | walk1 | dsimp only))
  with_unfolding_all refine' comp1 (h₀ := g') (L := L') (by k_asm) ?hclos ?hcl ?hpc ?hkind ?hnames ?hx ?h ?hs
  case hclos => exact rfl
  case hcl => exact fun _ => rfl
  case hpc => exact fun _ => rfl
  case hkind => exact rfl
  case hnames => decide
  case hx => exact fun _ _ => rfl
  case hs => intro _; rfl
  case h =>
    repeat' ((fail_if_success (with_reducible show CompOne _ _ _ _ _ _ _ _ _ _ _ _ _ _)); (first | ((with_reducible refine qb1 ?_); (try dsimp only)) | ((with_reducible refine qb2 ?_); (try dsimp only)) | ((with_reducible refine qa1 ?_); (try dsimp only)) | ((with_reducible refine qa2 ?_); (try dsimp only [List.cons_append, List.nil_append])) | ((with_reducible refine qs1 ?_); (try dsimp only)) | ((with_reducible refine qs2 ?_); (try dsimp only)) | (with_reducible refine qs3 ?_) | (with_reducible refine qs4 ?_) | ((with_reducible refine qc1 ?_); (try dsimp only)) | ((with_reducible refine qu1 ?_); (try dsimp only)) | (with_reducible refine qu2 ?_) | ((with_reducible refine qg1 ?_); (try dsimp only)) | (with_reducible refine qg2 ?_) | ((with_reducible refine qt1 ?_); (try dsimp only)) | ((with_reducible refine qr1 ?_); (try dsimp only)) | (with_reducible refine qb0 ?_) | (with_reducible refine qu0 ?_) | ((with_reducible show wpAny _ _ (spliced (backTo _ (starEach (_ :: _) _))) _ _ _); k_dflt (refine qa0 ?_)) | ((with_reducible show wpAny _ _ (execs (_ :: _) _) _ _ _); first | (k_here; k_gentoks) | (with_reducible refine qs0 ?_)) | ((with_reducible show wpAny _ _ (eval (PySem.Expr.Call (PySem.Expr.Name _ _) _ [] _) _) _ _ _); (fail_if_success (with_reducible show wpAny _ _ (eval _ (compEnvC _ _ _ _)) _ _ _)); k_dflt (refine qc0 ?_)) | ((with_reducible show wpAny _ _ (exec (Stmt.Assign [PySem.Expr.Name _ _] _ _) _) _ _ _); (fail_if_success (with_reducible show wpAny _ _ (exec (Stmt.Assign _ (PySem.Expr.ListComp _ _ _ _) _) _) _ _ _)); k_dflt (refine qg0 ?_)) | ((with_reducible show wpAny _ _ (eval (PySem.Expr.Attribute (PySem.Expr.Name _ _) _ _) _) _ _ _); k_dflt (refine qt0 ?_)) | (with_reducible refine qr0 ?_) | ((with_reducible show wpAny _ _ (eval (PySem.Expr.Name _ _) _) _ _ _); (with_reducible (k_here; (with_reducible show wpAny _ _ (eval (Expr.Name _ _) (compEnvC _ _ _ _)) _ _ _); k_dflt (first | (refine' nameE_C ?zzk1 ?zzk2 ?zzk3 ?zzk4 ?_ ?zzk5 ?zzk6 ?zzk7; (case zzk6 => exact rfl); (case zzk1 => k_asm); (case zzk2 => exact rfl); (case zzk3 => (first | walk_at "mm" | k_mem)); (case zzk4 => first | assumption | exact rfl); (case zzk5 => exact rfl); (case zzk7 => decide); k_whole) | refine nameE_K (by k_asm) (by k_asm) (by k_asm) (by k_is) ?_ | refine nameE_B (by k_asm) (by k_asm) (by k_asm) (by k_is) (by boot_by_name) (by decide) ?_)))) | ((with_reducible show wpAny _ _ (compareOp _ (Value.ref _) (Value.ref _)) _ _ _); (with_reducible (k_here; (with_reducible show wpAny _ _ (compareOp CmpOp.NotEq (Value.ref _) (Value.ref _)) _ _ _); k_dflt (refine' ne_same ?zzk0 ?zzk1 ?zzk2 ?zzk3 ?zzk4 ?zzk5 ?zzk6 ?_; (case zzk1 => k_asm); (case zzk2 => k_asm); (case zzk3 => k_inst); (case zzk4 => k_is); (case zzk5 => k_is); (case zzk6 => k_is); (case zzk0 => first | assumption | k_units); k_whole)))) | ((with_reducible show wpAny _ _ (setItem (Value.ref _) (Value.int _ _) _) _ _ _); (with_reducible (k_here; (with_reducible show wpAny _ _ (setItem (Value.ref _) (Value.int _ _) _) _ _ _); k_dflt (refine' set_here ?zzk1 ?zzk2 ?zzk3 ?zzk4 ?zzk5 ?zzk6 ?zzk7 ?_; (case zzk1 => k_asm); (case zzk2 => k_asm); (case zzk3 => k_upd); (case zzk4 => decide); (case zzk5 => simp; done); (case zzk6 => decide); (case zzk7 => exact rfl); k_whole); intro h' F' N'; (simp only [List.setIfInBounds_toArray, Int.toNat_zero, Int.reduceToNat, List.set_cons_zero, List.set_cons_succ] at N'); (try k_sweep)))) | ((with_reducible show wpAny _ _ (getMethod (Value.ref _) _ _) _ _ _); (with_reducible (k_here; k_dflt (first | (refine' method_inst ?zzk1 ?zzk2 ?zzk3 ?zzk4 ?zzk5 ?zzk6 ?zzk7 ?_; (case zzk1 => k_asm); (case zzk2 => k_asm); (case zzk3 => k_inst); (case zzk4 => k_is); (case zzk5 => k_is); (case zzk6 => k_is); (case zzk7 => k_get); k_whole) | (refine' kmu_own ?zzk1 ?zzk2 ?zzk3 ?zzk4 ?zzk5 ?_; (case zzk1 => k_asm); (case zzk2 => k_asm); (case zzk3 => k_inst); (case zzk4 => k_is); (case zzk5 => k_is); k_whole) | (refine' kmu_sm ?zzk1 ?zzk2 ?zzk4 ?zzk5 ?zzk6 ?zzk7 ?zzk8 ?zzk9 ?zzk10 ?zzk11 ?zzk12 ?zzk13 ?zzk14 ?_; (case zzk1 => k_asm); (case zzk2 => k_asm); (case zzk4 => k_inst); (case zzk5 => k_is); (case zzk6 => k_is); (case zzk7 => k_is); (case zzk8 => k_is); (case zzk9 => k_is); (case zzk10 => k_is); (case zzk11 => decide +kernel); (case zzk12 => k_get); (case zzk13 => k_is); (case zzk14 => k_handed); k_whole))))) | walk1 | dsimp only))
    refine ⟨_, _, _, _, _, rfl, rfl, (by assumption), (by k_asm), (by k_asm), ?_⟩
    intro I9 D9 C9 c9 t9 h9 tk9 E9 lI lD lC lc F9 N9
    (try dsimp only at lI); (try dsimp only at N9)
    have kI9 := gn_lt lI
    have kD9 := gn_lt2 lI lD
    have kC9 := gn_lt2 lI (Nat.lt_trans lD lC)
    k_lt lI
    replace lD := ltN lD
    replace lC := ltN lC
    replace lc := ltN lc
    k_sweep
    with_unfolding_all refine' comp1 (h₀ := g') (L := L') F9 ?hclos ?hcl ?hpc ?hkind ?hnames ?hx ?h ?hs
    case hclos => exact rfl
    case hcl => exact fun _ => rfl
    case hpc => exact fun _ => rfl
    case hkind => exact rfl
    case hnames => decide
    case hx => exact fun _ _ => rfl
    case hs => intro _; rfl
    case h =>
      repeat' ((fail_if_success (with_reducible show CompOne _ _ _ _ _ _ _ _ _ _ _ _ _ _)); (first | ((with_reducible refine qb1 ?_); (try dsimp only)) | ((with_reducible refine qb2 ?_); (try dsimp only)) | ((with_reducible refine qa1 ?_); (try dsimp only)) | ((with_reducible refine qa2 ?_); (try dsimp only [List.cons_append, List.nil_append])) | ((with_reducible refine qs1 ?_); (try dsimp only)) | ((with_reducible refine qs2 ?_); (try dsimp only)) | (with_reducible refine qs3 ?_) | (with_reducible refine qs4 ?_) | ((with_reducible refine qc1 ?_); (try dsimp only)) | ((with_reducible refine qu1 ?_); (try dsimp only)) | (with_reducible refine qu2 ?_) | ((with_reducible refine qg1 ?_); (try dsimp only)) | (with_reducible refine qg2 ?_) | ((with_reducible refine qt1 ?_); (try dsimp only)) | ((with_reducible refine qr1 ?_); (try dsimp only)) | (with_reducible refine qb0 ?_) | (with_reducible refine qu0 ?_) | ((with_reducible show wpAny _ _ (spliced (backTo _ (starEach (_ :: _) _))) _ _ _); k_dflt (refine qa0 ?_)) | ((with_reducible show wpAny _ _ (execs (_ :: _) _) _ _ _); first | (k_here; k_gentoks) | (with_reducible refine qs0 ?_)) | ((with_reducible show wpAny _ _ (eval (PySem.Expr.Call (PySem.Expr.Name _ _) _ [] _) _) _ _ _); (fail_if_success (with_reducible show wpAny _ _ (eval _ (compEnvC _ _ _ _)) _ _ _)); k_dflt (refine qc0 ?_)) | ((with_reducible show wpAny _ _ (exec (Stmt.Assign [PySem.Expr.Name _ _] _ _) _) _ _ _); (fail_if_success (with_reducible show wpAny _ _ (exec (Stmt.Assign _ (PySem.Expr.ListComp _ _ _ _) _) _) _ _ _)); k_dflt (refine qg0 ?_)) | ((with_reducible show wpAny _ _ (eval (PySem.Expr.Attribute (PySem.Expr.Name _ _) _ _) _) _ _ _); k_dflt (refine qt0 ?_)) | (with_reducible refine qr0 ?_) | ((with_reducible show wpAny _ _ (eval (PySem.Expr.Name _ _) _) _ _ _); (with_reducible (k_here; (with_reducible show wpAny _ _ (eval (Expr.Name _ _) (compEnvC _ _ _ _)) _ _ _); k_dflt (first | (refine' nameE_C ?zzk1 ?zzk2 ?zzk3 ?zzk4 ?_ ?zzk5 ?zzk6 ?zzk7; (case zzk6 => exact rfl); (case zzk1 => k_asm); (case zzk2 => exact rfl); (case zzk3 => (first | walk_at "mm" | k_mem)); (case zzk4 => first | assumption | exact rfl); (case zzk5 => exact rfl); (case zzk7 => decide); k_whole) | refine nameE_K (by k_asm) (by k_asm) (by k_asm) (by k_is) ?_ | refine nameE_B (by k_asm) (by k_asm) (by k_asm) (by k_is) (by boot_by_name) (by decide) ?_)))) | ((with_reducible show wpAny _ _ (compareOp _ (Value.ref _) (Value.ref _)) _ _ _); (with_reducible (k_here; (with_reducible show wpAny _ _ (compareOp CmpOp.NotEq (Value.ref _) (Value.ref _)) _ _ _); k_dflt (refine' ne_same ?zzk0 ?zzk1 ?zzk2 ?zzk3 ?zzk4 ?zzk5 ?zzk6 ?_; (case zzk1 => k_asm); (case zzk2 => k_asm); (case zzk3 => k_inst); (case zzk4 => k_is); (case zzk5 => k_is); (case zzk6 => k_is); (case zzk0 => first | assumption | k_units); k_whole)))) | ((with_reducible show wpAny _ _ (setItem (Value.ref _) (Value.int _ _) _) _ _ _); (with_reducible (k_here; (with_reducible show wpAny _ _ (setItem (Value.ref _) (Value.int _ _) _) _ _ _); k_dflt (refine' set_here ?zzk1 ?zzk2 ?zzk3 ?zzk4 ?zzk5 ?zzk6 ?zzk7 ?_; (case zzk1 => k_asm); (case zzk2 => k_asm); (case zzk3 => k_upd); (case zzk4 => decide); (case zzk5 => simp; done); (case zzk6 => decide); (case zzk7 => exact rfl); k_whole); intro h' F' N'; (simp only [List.setIfInBounds_toArray, Int.toNat_zero, Int.reduceToNat, List.set_cons_zero, List.set_cons_succ] at N'); (try k_sweep)))) | ((with_reducible show wpAny _ _ (getMethod (Value.ref _) _ _) _ _ _); (with_reducible (k_here; k_dflt (first | (refine' method_inst ?zzk1 ?zzk2 ?zzk3 ?zzk4 ?zzk5 ?zzk6 ?zzk7 ?_; (case zzk1 => k_asm); (case zzk2 => k_asm); (case zzk3 => k_inst); (case zzk4 => k_is); (case zzk5 => k_is); (case zzk6 => k_is); (case zzk7 => k_get); k_whole) | (refine' kmu_own ?zzk1 ?zzk2 ?zzk3 ?zzk4 ?zzk5 ?_; (case zzk1 => k_asm); (case zzk2 => k_asm); (case zzk3 => k_inst); (case zzk4 => k_is); (case zzk5 => k_is); k_whole) | (refine' kmu_sm ?zzk1 ?zzk2 ?zzk4 ?zzk5 ?zzk6 ?zzk7 ?zzk8 ?zzk9 ?zzk10 ?zzk11 ?zzk12 ?zzk13 ?zzk14 ?_; (case zzk1 => k_asm); (case zzk2 => k_asm); (case zzk4 => k_inst); (case zzk5 => k_is); (case zzk6 => k_is); (case zzk7 => k_is); (case zzk8 => k_is); (case zzk9 => k_is); (case zzk10 => k_is); (case zzk11 => decide +kernel); (case zzk12 => k_get); (case zzk13 => k_is); (case zzk14 => k_handed); k_whole))))) | walk1 | dsimp only))
      refine ⟨_, _, _, _, _, rfl, rfl, (by assumption), (by k_asm), (by k_asm), ?_⟩
      intro I8 D8 C8 c8 t8 h8 tk8 E8 lI8 lD8 lC8 lc8 F8 N8
      (try dsimp only at lI8); (try dsimp only at N8)
      have kI8 := gn_lt lI8
      have kD8 := gn_lt2 lI8 lD8
      have kC8 := gn_lt2 lI8 (Nat.lt_trans lD8 lC8)
      k_lt lI8
      replace lD8 := ltN lD8
      replace lC8 := ltN lC8
      replace lc8 := ltN lc8
      k_sweep
      repeat' ((fail_if_success (with_reducible show wpAny _ _ (eval (Expr.GeneratorExp _ _ _ _) _) _ _ _)); (first | (k_unfold; (try dsimp only)) | ((with_reducible refine qb1 ?_); (try dsimp only)) | ((with_reducible refine qb2 ?_); (try dsimp only)) | ((with_reducible refine qa1 ?_); (try dsimp only)) | ((with_reducible refine qa2 ?_); (try dsimp only [List.cons_append, List.nil_append])) | ((with_reducible refine qs1 ?_); (try dsimp only)) | ((with_reducible refine qs2 ?_); (try dsimp only)) | (with_reducible refine qs3 ?_) | (with_reducible refine qs4 ?_) | ((with_reducible refine qc1 ?_); (try dsimp only)) | ((with_reducible refine qu1 ?_); (try dsimp only)) | (with_reducible refine qu2 ?_) | ((with_reducible refine qg1 ?_); (try dsimp only)) | (with_reducible refine qg2 ?_) | ((with_reducible refine qt1 ?_); (try dsimp only)) | ((with_reducible refine qr1 ?_); (try dsimp only)) | (with_reducible refine qb0 ?_) | (with_reducible refine qu0 ?_) | ((with_reducible show wpAny _ _ (spliced (backTo _ (starEach (_ :: _) _))) _ _ _); k_dflt (refine qa0 ?_)) | ((with_reducible show wpAny _ _ (execs (_ :: _) _) _ _ _); first | (k_here; k_gentoks) | (with_reducible refine qs0 ?_)) | ((with_reducible show wpAny _ _ (eval (PySem.Expr.Call (PySem.Expr.Name _ _) _ [] _) _) _ _ _); (fail_if_success (with_reducible show wpAny _ _ (eval _ (compEnvC _ _ _ _)) _ _ _)); k_dflt (refine qc0 ?_)) | ((with_reducible show wpAny _ _ (exec (Stmt.Assign [PySem.Expr.Name _ _] _ _) _) _ _ _); (fail_if_success (with_reducible show wpAny _ _ (exec (Stmt.Assign _ (PySem.Expr.ListComp _ _ _ _) _) _) _ _ _)); k_dflt (refine qg0 ?_)) | ((with_reducible show wpAny _ _ (eval (PySem.Expr.Attribute (PySem.Expr.Name _ _) _ _) _) _ _ _); k_dflt (refine qt0 ?_)) | (with_reducible refine qr0 ?_) | ((with_reducible show wpAny _ _ (eval (PySem.Expr.Name _ _) _) _ _ _); (with_reducible (k_here; (with_reducible show wpAny _ _ (eval (Expr.Name _ _) (compEnvC _ _ _ _)) _ _ _); k_dflt (first | (refine' nameE_C ?zzk1 ?zzk2 ?zzk3 ?zzk4 ?_ ?zzk5 ?zzk6 ?zzk7; (case zzk6 => exact rfl); (case zzk1 => k_asm); (case zzk2 => exact rfl); (case zzk3 => (first | walk_at "mm" | k_mem)); (case zzk4 => first | assumption | exact rfl); (case zzk5 => exact rfl); (case zzk7 => decide); k_whole) | refine nameE_K (by k_asm) (by k_asm) (by k_asm) (by k_is) ?_ | refine nameE_B (by k_asm) (by k_asm) (by k_asm) (by k_is) (by boot_by_name) (by decide) ?_)))) | ((with_reducible show wpAny _ _ (compareOp _ (Value.ref _) (Value.ref _)) _ _ _); (with_reducible (k_here; (with_reducible show wpAny _ _ (compareOp CmpOp.NotEq (Value.ref _) (Value.ref _)) _ _ _); k_dflt (refine' ne_same ?zzk0 ?zzk1 ?zzk2 ?zzk3 ?zzk4 ?zzk5 ?zzk6 ?_; (case zzk1 => k_asm); (case zzk2 => k_asm); (case zzk3 => k_inst); (case zzk4 => k_is); (case zzk5 => k_is); (case zzk6 => k_is); (case zzk0 => first | assumption | k_units); k_whole)))) | ((with_reducible show wpAny _ _ (setItem (Value.ref _) (Value.int _ _) _) _ _ _); (with_reducible (k_here; (with_reducible show wpAny _ _ (setItem (Value.ref _) (Value.int _ _) _) _ _ _); k_dflt (refine' set_here ?zzk1 ?zzk2 ?zzk3 ?zzk4 ?zzk5 ?zzk6 ?zzk7 ?_; (case zzk1 => k_asm); (case zzk2 => k_asm); (case zzk3 => k_upd); (case zzk4 => decide); (case zzk5 => simp; done); (case zzk6 => decide); (case zzk7 => exact rfl); k_whole); intro h' F' N'; (simp only [List.setIfInBounds_toArray, Int.toNat_zero, Int.reduceToNat, List.set_cons_zero, List.set_cons_succ] at N'); (try k_sweep)))) | ((with_reducible show wpAny _ _ (getMethod (Value.ref _) _ _) _ _ _); (with_reducible (k_here; k_dflt (first | (refine' method_inst ?zzk1 ?zzk2 ?zzk3 ?zzk4 ?zzk5 ?zzk6 ?zzk7 ?_; (case zzk1 => k_asm); (case zzk2 => k_asm); (case zzk3 => k_inst); (case zzk4 => k_is); (case zzk5 => k_is); (case zzk6 => k_is); (case zzk7 => k_get); k_whole) | (refine' kmu_own ?zzk1 ?zzk2 ?zzk3 ?zzk4 ?zzk5 ?_; (case zzk1 => k_asm); (case zzk2 => k_asm); (case zzk3 => k_inst); (case zzk4 => k_is); (case zzk5 => k_is); k_whole) | (refine' kmu_sm ?zzk1 ?zzk2 ?zzk4 ?zzk5 ?zzk6 ?zzk7 ?zzk8 ?zzk9 ?zzk10 ?zzk11 ?zzk12 ?zzk13 ?zzk14 ?_; (case zzk1 => k_asm); (case zzk2 => k_asm); (case zzk4 => k_inst); (case zzk5 => k_is); (case zzk6 => k_is); (case zzk7 => k_is); (case zzk8 => k_is); (case zzk9 => k_is); (case zzk10 => k_is); (case zzk11 => decide +kernel); (case zzk12 => k_get); (case zzk13 => k_is); (case zzk14 => k_handed); k_whole))))) | walk1 | dsimp only))
      with_unfolding_all refine' genexp_of ?hco ?hclos ?hcell ?h0 ?hkind ?hroom ?hgen ?hs
      case hco => exact rfl
      case hclos => exact rfl
      case hcell => decide
      case h0 => exact rfl
      case hkind => exact rfl
      case hroom => ktr_room
      case hs => intro _; rfl
      case hgen =>
        repeat' ((fail_if_success (with_reducible show GenRest _ _ _ _ _ _ _ _ _ _ _ _ _ _)); (first | ((with_reducible refine qb1 ?_); (try dsimp only)) | ((with_reducible refine qb2 ?_); (try dsimp only)) | ((with_reducible refine qa1 ?_); (try dsimp only)) | ((with_reducible refine qa2 ?_); (try dsimp only [List.cons_append, List.nil_append])) | ((with_reducible refine qs1 ?_); (try dsimp only)) | ((with_reducible refine qs2 ?_); (try dsimp only)) | (with_reducible refine qs3 ?_) | (with_reducible refine qs4 ?_) | ((with_reducible refine qc1 ?_); (try dsimp only)) | ((with_reducible refine qu1 ?_); (try dsimp only)) | (with_reducible refine qu2 ?_) | ((with_reducible refine qg1 ?_); (try dsimp only)) | (with_reducible refine qg2 ?_) | ((with_reducible refine qt1 ?_); (try dsimp only)) | ((with_reducible refine qr1 ?_); (try dsimp only)) | (with_reducible refine qb0 ?_) | (with_reducible refine qu0 ?_) | ((with_reducible show wpAny _ _ (spliced (backTo _ (starEach (_ :: _) _))) _ _ _); k_dflt (refine qa0 ?_)) | ((with_reducible show wpAny _ _ (execs (_ :: _) _) _ _ _); first | (k_here; k_gentoks) | (with_reducible refine qs0 ?_)) | ((with_reducible show wpAny _ _ (eval (PySem.Expr.Call (PySem.Expr.Name _ _) _ [] _) _) _ _ _); (fail_if_success (with_reducible show wpAny _ _ (eval _ (compEnvC _ _ _ _)) _ _ _)); k_dflt (refine qc0 ?_)) | ((with_reducible show wpAny _ _ (exec (Stmt.Assign [PySem.Expr.Name _ _] _ _) _) _ _ _); (fail_if_success (with_reducible show wpAny _ _ (exec (Stmt.Assign _ (PySem.Expr.ListComp _ _ _ _) _) _) _ _ _)); k_dflt (refine qg0 ?_)) | ((with_reducible show wpAny _ _ (eval (PySem.Expr.Attribute (PySem.Expr.Name _ _) _ _) _) _ _ _); k_dflt (refine qt0 ?_)) | (with_reducible refine qr0 ?_) | ((with_reducible show wpAny _ _ (eval (PySem.Expr.Name _ _) _) _ _ _); (with_reducible (k_here; (with_reducible show wpAny _ _ (eval (Expr.Name _ _) (compEnvC _ _ _ _)) _ _ _); k_dflt (first | (refine' nameE_C ?zzk1 ?zzk2 ?zzk3 ?zzk4 ?_ ?zzk5 ?zzk6 ?zzk7; (case zzk6 => exact rfl); (case zzk1 => k_asm); (case zzk2 => exact rfl); (case zzk3 => (first | walk_at "mm" | k_mem)); (case zzk4 => first | assumption | exact rfl); (case zzk5 => exact rfl); (case zzk7 => decide); k_whole) | refine nameE_K (by k_asm) (by k_asm) (by k_asm) (by k_is) ?_ | refine nameE_B (by k_asm) (by k_asm) (by k_asm) (by k_is) (by boot_by_name) (by decide) ?_)))) | ((with_reducible show wpAny _ _ (compareOp _ (Value.ref _) (Value.ref _)) _ _ _); (with_reducible (k_here; (with_reducible show wpAny _ _ (compareOp CmpOp.NotEq (Value.ref _) (Value.ref _)) _ _ _); k_dflt (refine' ne_same ?zzk0 ?zzk1 ?zzk2 ?zzk3 ?zzk4 ?zzk5 ?zzk6 ?_; (case zzk1 => k_asm); (case zzk2 => k_asm); (case zzk3 => k_inst); (case zzk4 => k_is); (case zzk5 => k_is); (case zzk6 => k_is); (case zzk0 => first | assumption | k_units); k_whole)))) | ((with_reducible show wpAny _ _ (setItem (Value.ref _) (Value.int _ _) _) _ _ _); (with_reducible (k_here; (with_reducible show wpAny _ _ (setItem (Value.ref _) (Value.int _ _) _) _ _ _); k_dflt (refine' set_here ?zzk1 ?zzk2 ?zzk3 ?zzk4 ?zzk5 ?zzk6 ?zzk7 ?_; (case zzk1 => k_asm); (case zzk2 => k_asm); (case zzk3 => k_upd); (case zzk4 => decide); (case zzk5 => simp; done); (case zzk6 => decide); (case zzk7 => exact rfl); k_whole); intro h' F' N'; (simp only [List.setIfInBounds_toArray, Int.toNat_zero, Int.reduceToNat, List.set_cons_zero, List.set_cons_succ] at N'); (try k_sweep)))) | ((with_reducible show wpAny _ _ (getMethod (Value.ref _) _ _) _ _ _); (with_reducible (k_here; k_dflt (first | (refine' method_inst ?zzk1 ?zzk2 ?zzk3 ?zzk4 ?zzk5 ?zzk6 ?zzk7 ?_; (case zzk1 => k_asm); (case zzk2 => k_asm); (case zzk3 => k_inst); (case zzk4 => k_is); (case zzk5 => k_is); (case zzk6 => k_is); (case zzk7 => k_get); k_whole) | (refine' kmu_own ?zzk1 ?zzk2 ?zzk3 ?zzk4 ?zzk5 ?_; (case zzk1 => k_asm); (case zzk2 => k_asm); (case zzk3 => k_inst); (case zzk4 => k_is); (case zzk5 => k_is); k_whole) | (refine' kmu_sm ?zzk1 ?zzk2 ?zzk4 ?zzk5 ?zzk6 ?zzk7 ?zzk8 ?zzk9 ?zzk10 ?zzk11 ?zzk12 ?zzk13 ?zzk14 ?_; (case zzk1 => k_asm); (case zzk2 => k_asm); (case zzk4 => k_inst); (case zzk5 => k_is); (case zzk6 => k_is); (case zzk7 => k_is); (case zzk8 => k_is); (case zzk9 => k_is); (case zzk10 => k_is); (case zzk11 => decide +kernel); (case zzk12 => k_get); (case zzk13 => k_is); (case zzk14 => k_handed); k_whole))))) | walk1 | dsimp only))
        rename Fr _ _ _ _ => F6
        rename News _ _ _ _ => N6
        k_dflt (refine' gen_rangeR (P := 320) (c := 322) (n := 2) (FVs w.params R (mulP fl0 gl0 64) (mulP fl1 gl1 64)) ?kB ?kF ?kX ?kN ?kT ?hA ?hf ?hke ?hh ?hge ?hcode ?Cd ?U ht2 ?hco ?hx ?hkind ?hr ?hsm ?hsz ?helt ?hg)
        case kB => exact B'
        case kF => exact F6
        case kX => exact X'
        case kN => exact N6
        case kT => exact T'
        case U => k_updF
        case hA => exact rfl
        case hf => exact rfl
        case hke => exact rfl
        case hh => exact rfl
        case hge => exact rfl
        case hcode => exact rfl
        case Cd => exact codeHd_of_K (c := 322) (P := 320) X' (by kernel_rfl)
        case hco => exact rfl
        case hx => exact rfl
        case hkind => exact rfl
        case hr => assumption
        case hsm => decide
        case hsz => exact rfl
        case helt =>
          intro G C' I code ps' E' i ti hr9 s₂ m₂ hi hx F7 N7 BG XG TG lG hex9
          (try dsimp only at N7)
          clear B' X' T'
          have hi' : i = 0 ∨ i = 1 := by omega
          rcases hi' with rfl | rfl
          · refine elt_fvs (if_pos rfl) hex9 ?_
            k_dflt (refine' elt_prod (hr := hr9) (k := 0) ?kB ?kF ?kX ?kN ?kT ?hkind ?hge ?n1 ?n2 ?n3 ?n4 ?n5 ?l1 ?l2 ?l4 ?l5 ?m1 ?m2 ?m3 ?m4 ?o1 ?o2 ?o3 ?o4 ?hmk ?m5 ?m6 ?m7 ?m8 ?m9 ?m10 ?m11 ?m12 ?v1 ?v2 ?z1 ?z2 ?m13 ?m14 ?m15 ?m16 ?m17 ?m18 ?m19 ?m20 ?m21 ?iZ ?iF ?iG ?lF ?lG ?sF ?sG ?hex ?hd)
            case kB => exact BG
            case kF => exact F7
            case kX => exact XG
            case kN => exact N7
            case kT => exact TG
            case hkind => exact rfl
            case hge => exact rfl
            case n1 => exact rfl
            case n2 => exact rfl
            case n3 => exact rfl
            case n4 => exact rfl
            case n5 => exact rfl
            case l1 => exact rfl
            case l2 => exact rfl
            case l4 => exact rfl
            case l5 => exact rfl
            case m1 => (first | walk_at "mm" | k_mem)
            case m2 => (first | walk_at "mm" | k_mem)
            case m3 => (first | walk_at "mm" | k_mem)
            case m4 => (first | walk_at "mm" | k_mem)
            case o1 => first | assumption | exact rfl
            case o2 => first | assumption | exact rfl
            case o3 => first | assumption | exact rfl
            case o4 => first | assumption | exact rfl
            case hmk => assumption
            case m5 => (first | walk_at "mm" | k_mem)
            case m6 => (first | walk_at "mm" | k_mem)
            case m7 => (first | walk_at "mm" | k_mem)
            case m8 => (first | walk_at "mm" | k_mem)
            case m9 => (first | walk_at "mm" | k_mem)
            case m10 => (first | walk_at "mm" | k_mem)
            case m11 => (first | walk_at "mm" | k_mem)
            case m12 => (first | walk_at "mm" | k_mem)
            case v1 => exact rfl
            case v2 => exact rfl
            case z1 => exact (by decide : 2 < 8)
            case z2 => exact (by decide : 2 < 8)
            case m13 => (first | walk_at "mm" | k_mem)
            case m14 => (first | walk_at "mm" | k_mem)
            case m15 => (first | walk_at "mm" | k_mem)
            case m16 => (first | walk_at "mm" | k_mem)
            case m17 => (first | walk_at "mm" | k_mem)
            case m18 => (first | walk_at "mm" | k_mem)
            case m19 => (first | walk_at "mm" | k_mem)
            case m20 => (first | walk_at "mm" | k_mem)
            case m21 => (first | walk_at "mm" | k_mem)
            case iZ => assumption
            case iF => assumption
            case iG => assumption
            case lF => assumption
            case lG => assumption
            case sF => assumption
            case sG => assumption
            case hex => assumption
            case hd => first | exact (show dp + 1 + 0 + 1 + 100 < recursionLimit from by omega) | exact (show dp + 1 + 0 + 0 + 100 < recursionLimit from by omega)
          · refine elt_fvs (if_neg (by decide)) hex9 ?_
            k_dflt (refine' elt_prod (hr := hr9) (k := 1) ?kB ?kF ?kX ?kN ?kT ?hkind ?hge ?n1 ?n2 ?n3 ?n4 ?n5 ?l1 ?l2 ?l4 ?l5 ?m1 ?m2 ?m3 ?m4 ?o1 ?o2 ?o3 ?o4 ?hmk ?m5 ?m6 ?m7 ?m8 ?m9 ?m10 ?m11 ?m12 ?v1 ?v2 ?z1 ?z2 ?m13 ?m14 ?m15 ?m16 ?m17 ?m18 ?m19 ?m20 ?m21 ?iZ ?iF ?iG ?lF ?lG ?sF ?sG ?hex ?hd)
            case kB => exact BG
            case kF => exact F7
            case kX => exact XG
            case kN => exact N7
            case kT => exact TG
            case hkind => exact rfl
            case hge => exact rfl
            case n1 => exact rfl
            case n2 => exact rfl
            case n3 => exact rfl
            case n4 => exact rfl
            case n5 => exact rfl
            case l1 => exact rfl
            case l2 => exact rfl
            case l4 => exact rfl
            case l5 => exact rfl
            case m1 => (first | walk_at "mm" | k_mem)
            case m2 => (first | walk_at "mm" | k_mem)
            case m3 => (first | walk_at "mm" | k_mem)
            case m4 => (first | walk_at "mm" | k_mem)
            case o1 => first | assumption | exact rfl
            case o2 => first | assumption | exact rfl
            case o3 => first | assumption | exact rfl
            case o4 => first | assumption | exact rfl
            case hmk => assumption
            case m5 => (first | walk_at "mm" | k_mem)
            case m6 => (first | walk_at "mm" | k_mem)
            case m7 => (first | walk_at "mm" | k_mem)
            case m8 => (first | walk_at "mm" | k_mem)
            case m9 => (first | walk_at "mm" | k_mem)
            case m10 => (first | walk_at "mm" | k_mem)
            case m11 => (first | walk_at "mm" | k_mem)
            case m12 => (first | walk_at "mm" | k_mem)
            case v1 => exact rfl
            case v2 => exact rfl
            case z1 => exact (by decide : 2 < 8)
            case z2 => exact (by decide : 2 < 8)
            case m13 => (first | walk_at "mm" | k_mem)
            case m14 => (first | walk_at "mm" | k_mem)
            case m15 => (first | walk_at "mm" | k_mem)
            case m16 => (first | walk_at "mm" | k_mem)
            case m17 => (first | walk_at "mm" | k_mem)
            case m18 => (first | walk_at "mm" | k_mem)
            case m19 => (first | walk_at "mm" | k_mem)
            case m20 => (first | walk_at "mm" | k_mem)
            case m21 => (first | walk_at "mm" | k_mem)
            case iZ => assumption
            case iF => assumption
            case iG => assumption
            case lF => assumption
            case lG => assumption
            case sF => assumption
            case sG => assumption
            case hex => assumption
            case hd => first | exact (show dp + 1 + 0 + 1 + 100 < recursionLimit from by omega) | exact (show dp + 1 + 0 + 0 + 100 < recursionLimit from by omega)

        case hg =>
          intro a7 gi C7 I7 h7 tk7 gens7 ps7 ht7 F7 N7 hst7 ne1 ne2 hlt7 hcs7 hcC7 hcw7 hI7 hb1 hb2 fC7 fI7 eC7 eI7 hk7
          (try dsimp only at N7)
          dsimp only at fC7 fI7
          have oC := fresh_off F6 fC7
          have oI := fresh_off F6 fI7
          have gCI := fun (d : Addr) e => gn_upd (d := d) (P := 320) (o := tabObj ps2) (o' := tabObj ps7) (by k_updF) (fresh_ne (a := d) N6 e)
          have gC := gn_ne (gCI _ fC7)
          have gI := gn_ne (gCI _ fI7)
          (try dsimp only at gC); (try dsimp only at gI)
          repeat' ((fail_if_success (with_reducible show wpAny _ _ (call (Value.builtin "sum") _) _ _ _)); (first | (k_unfold; (try dsimp only)) | ((with_reducible refine qb1 ?_); (try dsimp only)) | ((with_reducible refine qb2 ?_); (try dsimp only)) | ((with_reducible refine qa1 ?_); (try dsimp only)) | ((with_reducible refine qa2 ?_); (try dsimp only [List.cons_append, List.nil_append])) | ((with_reducible refine qs1 ?_); (try dsimp only)) | ((with_reducible refine qs2 ?_); (try dsimp only)) | (with_reducible refine qs3 ?_) | (with_reducible refine qs4 ?_) | ((with_reducible refine qc1 ?_); (try dsimp only)) | ((with_reducible refine qu1 ?_); (try dsimp only)) | (with_reducible refine qu2 ?_) | ((with_reducible refine qg1 ?_); (try dsimp only)) | (with_reducible refine qg2 ?_) | ((with_reducible refine qt1 ?_); (try dsimp only)) | ((with_reducible refine qr1 ?_); (try dsimp only)) | (with_reducible refine qb0 ?_) | (with_reducible refine qu0 ?_) | ((with_reducible show wpAny _ _ (spliced (backTo _ (starEach (_ :: _) _))) _ _ _); k_dflt (refine qa0 ?_)) | ((with_reducible show wpAny _ _ (execs (_ :: _) _) _ _ _); first | (k_here; k_gentoks) | (with_reducible refine qs0 ?_)) | ((with_reducible show wpAny _ _ (eval (PySem.Expr.Call (PySem.Expr.Name _ _) _ [] _) _) _ _ _); (fail_if_success (with_reducible show wpAny _ _ (eval _ (compEnvC _ _ _ _)) _ _ _)); k_dflt (refine qc0 ?_)) | ((with_reducible show wpAny _ _ (exec (Stmt.Assign [PySem.Expr.Name _ _] _ _) _) _ _ _); (fail_if_success (with_reducible show wpAny _ _ (exec (Stmt.Assign _ (PySem.Expr.ListComp _ _ _ _) _) _) _ _ _)); k_dflt (refine qg0 ?_)) | ((with_reducible show wpAny _ _ (eval (PySem.Expr.Attribute (PySem.Expr.Name _ _) _ _) _) _ _ _); k_dflt (refine qt0 ?_)) | (with_reducible refine qr0 ?_) | ((with_reducible show wpAny _ _ (eval (PySem.Expr.Name _ _) _) _ _ _); (with_reducible (k_here; (with_reducible show wpAny _ _ (eval (Expr.Name _ _) (compEnvC _ _ _ _)) _ _ _); k_dflt (first | (refine' nameE_C ?zzk1 ?zzk2 ?zzk3 ?zzk4 ?_ ?zzk5 ?zzk6 ?zzk7; (case zzk6 => exact rfl); (case zzk1 => k_asm); (case zzk2 => exact rfl); (case zzk3 => (first | walk_at "mm" | k_mem)); (case zzk4 => first | assumption | exact rfl); (case zzk5 => exact rfl); (case zzk7 => decide); k_whole) | refine nameE_K (by k_asm) (by k_asm) (by k_asm) (by k_is) ?_ | refine nameE_B (by k_asm) (by k_asm) (by k_asm) (by k_is) (by boot_by_name) (by decide) ?_)))) | ((with_reducible show wpAny _ _ (compareOp _ (Value.ref _) (Value.ref _)) _ _ _); (with_reducible (k_here; (with_reducible show wpAny _ _ (compareOp CmpOp.NotEq (Value.ref _) (Value.ref _)) _ _ _); k_dflt (refine' ne_same ?zzk0 ?zzk1 ?zzk2 ?zzk3 ?zzk4 ?zzk5 ?zzk6 ?_; (case zzk1 => k_asm); (case zzk2 => k_asm); (case zzk3 => k_inst); (case zzk4 => k_is); (case zzk5 => k_is); (case zzk6 => k_is); (case zzk0 => first | assumption | k_units); k_whole)))) | ((with_reducible show wpAny _ _ (setItem (Value.ref _) (Value.int _ _) _) _ _ _); (with_reducible (k_here; (with_reducible show wpAny _ _ (setItem (Value.ref _) (Value.int _ _) _) _ _ _); k_dflt (refine' set_here ?zzk1 ?zzk2 ?zzk3 ?zzk4 ?zzk5 ?zzk6 ?zzk7 ?_; (case zzk1 => k_asm); (case zzk2 => k_asm); (case zzk3 => k_upd); (case zzk4 => decide); (case zzk5 => simp; done); (case zzk6 => decide); (case zzk7 => exact rfl); k_whole); intro h' F' N'; (simp only [List.setIfInBounds_toArray, Int.toNat_zero, Int.reduceToNat, List.set_cons_zero, List.set_cons_succ] at N'); (try k_sweep)))) | ((with_reducible show wpAny _ _ (getMethod (Value.ref _) _ _) _ _ _); (with_reducible (k_here; k_dflt (first | (refine' method_inst ?zzk1 ?zzk2 ?zzk3 ?zzk4 ?zzk5 ?zzk6 ?zzk7 ?_; (case zzk1 => k_asm); (case zzk2 => k_asm); (case zzk3 => k_inst); (case zzk4 => k_is); (case zzk5 => k_is); (case zzk6 => k_is); (case zzk7 => k_get); k_whole) | (refine' kmu_own ?zzk1 ?zzk2 ?zzk3 ?zzk4 ?zzk5 ?_; (case zzk1 => k_asm); (case zzk2 => k_asm); (case zzk3 => k_inst); (case zzk4 => k_is); (case zzk5 => k_is); k_whole) | (refine' kmu_sm ?zzk1 ?zzk2 ?zzk4 ?zzk5 ?zzk6 ?zzk7 ?zzk8 ?zzk9 ?zzk10 ?zzk11 ?zzk12 ?zzk13 ?zzk14 ?_; (case zzk1 => k_asm); (case zzk2 => k_asm); (case zzk4 => k_inst); (case zzk5 => k_is); (case zzk6 => k_is); (case zzk7 => k_is); (case zzk8 => k_is); (case zzk9 => k_is); (case zzk10 => k_is); (case zzk11 => decide +kernel); (case zzk12 => k_get); (case zzk13 => k_is); (case zzk14 => k_handed); k_whole))))) | walk1 | dsimp only))
          k_dflt (refine' sum_use (R := R) (ag := a7) (C := C7) (I := I7) (gi := gi) (p0 := mulP fl0 gl0 64) (p1 := mulP fl1 gl1 64) ?kB ?kF ?kX ?kN ?kT ?hk ?m1 ?m2 ?l0 ?l1 ?s0 ?hst ne1 ne2 ?hfp hcs7 hcC7 hcw7 hI7 ?xC ?xI ?eC ?eI ?hd ?ret)
          case kB => exact B'
          case kF => exact F7
          case kX => exact X'
          case kN => exact N7
          case kT => exact T'
          case hk => exact rfl
          case m1 => (first | walk_at "mm" | k_mem)
          case m2 => (first | walk_at "mm" | k_mem)
          case l0 => exact mulP_len _ _ _
          case l1 => exact mulP_len _ _ _
          case s0 => exact mulP_small _ _ _
          case hst => exact hst7
          case hfp => exact hlt7
          case xC => exact ⟨oC.1, oC.2, gC⟩
          case xI => exact ⟨oI.1, oI.2, gI⟩
          case eC => exact eC7
          case eI => exact eI7
          case hd => ktr_room
          case ret =>
            intro x6 dx6 cc6 u6 v6 its6 kk6 h6 tk6 gs6 hI6 F5 N5 j1 j2 j3 j4 j5 j6 hg6
            dsimp only at j1 j2 j3
            have w1 := fresh_ne N7 j1
            have w2 := fresh_ne N7 j2
            have w3 := fresh_ne N7 j3
            clear hst7 hlt7 hcs7 hcC7 hcw7 hI7 hb1 fC7 fI7 eC7 eI7 hk7 oC oI gC gI F6 N6 ne1 ne2
            refine ⟨h6, tk6, gs6, [(x6, instObj 581 dx6), (dx6, polyDict w.params u6 v6 R cc6), (cc6, listOf its6.toArray kk6), (c9, cellObj (some (.int 0 t9))), (C9, dictNone), (D9, LCg.lst []), (I9, itR 1 0), (362, tabObj ps1), (320, tabObj ps7), (x1, instObj 638 dx1), (dx1, matDict w.params t1 t2 t3 Mo D1 false), (D1, listOf #[.ref a1] kd1), (a1, listOf #[.ref y0, .ref y1] kl1), (x2, instObj 638 dx2), (dx2, matDict w.params t4 t5 t6 Mo D2 true), (D2, listOf #[.ref a2] kd2), (a2, listOf #[.ref z0, .ref z1] kl2), (Mo, instObj 673 dM), (dM, modDict w.params b1 R), (R, instObj 437 dR), (dR, ringDict w.params c1 c2 c3 c4 c5 c6 c7 z), (z, listOf zs.toArray kz), (y0, instObj 581 dy0), (dy0, polyDict w.params e1 e2 R f0), (f0, listOf fs0.toArray kf0), (y1, instObj 581 dy1), (dy1, polyDict w.params e3 e4 R f1), (f1, listOf fs1.toArray kf1), (z0, instObj 581 dz0), (dz0, polyDict w.params e5 e6 R g0), (g0, listOf gs0.toArray kg0), (z1, instObj 581 dz1), (dz1, polyDict w.params e7 e8 R g1), (g1, listOf gs1.toArray kg1)], rfl, F5, News.sub N5 (by lcg_sub), ⟨by k_ne, by k_ne, by k_ne, by k_ne, by k_ne, by k_ne, by k_ne, by k_ne, by k_ne, gn_sub (by lcg_sub) kI8⟩, ⟨by k_ne, by k_ne, by k_ne, by k_ne, by k_ne, by k_ne, by k_ne, by k_ne, by k_ne, gn_sub (by lcg_sub) kD8⟩, ⟨by k_ne, by k_ne, by k_ne, by k_ne, by k_ne, by k_ne, by k_ne, by k_ne, by k_ne, gn_sub (by lcg_sub) kC8⟩, ?_⟩
            intro h5 tk5 F4 N4
            refine ⟨h5, tk5, gs6, [(D8, LCg.lst [.ref x6]), (x6, instObj 581 dx6), (dx6, polyDict w.params u6 v6 R cc6), (cc6, listOf its6.toArray kk6), (362, tabObj ps1), (320, tabObj ps7), (x1, instObj 638 dx1), (dx1, matDict w.params t1 t2 t3 Mo D1 false), (D1, listOf #[.ref a1] kd1), (a1, listOf #[.ref y0, .ref y1] kl1), (x2, instObj 638 dx2), (dx2, matDict w.params t4 t5 t6 Mo D2 true), (D2, listOf #[.ref a2] kd2), (a2, listOf #[.ref z0, .ref z1] kl2), (Mo, instObj 673 dM), (dM, modDict w.params b1 R), (R, instObj 437 dR), (dR, ringDict w.params c1 c2 c3 c4 c5 c6 c7 z), (z, listOf zs.toArray kz), (y0, instObj 581 dy0), (dy0, polyDict w.params e1 e2 R f0), (f0, listOf fs0.toArray kf0), (y1, instObj 581 dy1), (dy1, polyDict w.params e3 e4 R f1), (f1, listOf fs1.toArray kf1), (z0, instObj 581 dz0), (dz0, polyDict w.params e5 e6 R g0), (g0, listOf gs0.toArray kg0), (z1, instObj 581 dz1), (dz1, polyDict w.params e7 e8 R g1), (g1, listOf gs1.toArray kg1)], rfl, F4, News.sub N4 (by lcg_sub), ⟨by k_ne, by k_ne, by k_ne, by k_ne, by k_ne, by k_ne, gn_sub (by lcg_sub) kI9⟩, ⟨by k_ne, by k_ne, by k_ne, by k_ne, by k_ne, by k_ne, gn_sub (by lcg_sub) kD9⟩, ⟨by k_ne, by k_ne, by k_ne, by k_ne, by k_ne, by k_ne, gn_sub (by lcg_sub) kC9⟩, ?_⟩
            intro h4 tk4 F3 N3
            clear F4 N4 F5 N5
            repeat' ((fail_if_success (with_reducible show wpAny _ _ (call (Value.ref _) [Value.ref _]) _ _ _)); (first | (k_unfold; (try dsimp only)) | ((with_reducible refine qb1 ?_); (try dsimp only)) | ((with_reducible refine qb2 ?_); (try dsimp only)) | ((with_reducible refine qa1 ?_); (try dsimp only)) | ((with_reducible refine qa2 ?_); (try dsimp only [List.cons_append, List.nil_append])) | ((with_reducible refine qs1 ?_); (try dsimp only)) | ((with_reducible refine qs2 ?_); (try dsimp only)) | (with_reducible refine qs3 ?_) | (with_reducible refine qs4 ?_) | ((with_reducible refine qc1 ?_); (try dsimp only)) | ((with_reducible refine qu1 ?_); (try dsimp only)) | (with_reducible refine qu2 ?_) | ((with_reducible refine qg1 ?_); (try dsimp only)) | (with_reducible refine qg2 ?_) | ((with_reducible refine qt1 ?_); (try dsimp only)) | ((with_reducible refine qr1 ?_); (try dsimp only)) | (with_reducible refine qb0 ?_) | (with_reducible refine qu0 ?_) | ((with_reducible show wpAny _ _ (spliced (backTo _ (starEach (_ :: _) _))) _ _ _); k_dflt (refine qa0 ?_)) | ((with_reducible show wpAny _ _ (execs (_ :: _) _) _ _ _); first | (k_here; k_gentoks) | (with_reducible refine qs0 ?_)) | ((with_reducible show wpAny _ _ (eval (PySem.Expr.Call (PySem.Expr.Name _ _) _ [] _) _) _ _ _); (fail_if_success (with_reducible show wpAny _ _ (eval _ (compEnvC _ _ _ _)) _ _ _)); k_dflt (refine qc0 ?_)) | ((with_reducible show wpAny _ _ (exec (Stmt.Assign [PySem.Expr.Name _ _] _ _) _) _ _ _); (fail_if_success (with_reducible show wpAny _ _ (exec (Stmt.Assign _ (PySem.Expr.ListComp _ _ _ _) _) _) _ _ _)); k_dflt (refine qg0 ?_)) | ((with_reducible show wpAny _ _ (eval (PySem.Expr.Attribute (PySem.Expr.Name _ _) _ _) _) _ _ _); k_dflt (refine qt0 ?_)) | (with_reducible refine qr0 ?_) | ((with_reducible show wpAny _ _ (eval (PySem.Expr.Name _ _) _) _ _ _); (with_reducible (k_here; (with_reducible show wpAny _ _ (eval (Expr.Name _ _) (compEnvC _ _ _ _)) _ _ _); k_dflt (first | (refine' nameE_C ?zzk1 ?zzk2 ?zzk3 ?zzk4 ?_ ?zzk5 ?zzk6 ?zzk7; (case zzk6 => exact rfl); (case zzk1 => k_asm); (case zzk2 => exact rfl); (case zzk3 => (first | walk_at "mm" | k_mem)); (case zzk4 => first | assumption | exact rfl); (case zzk5 => exact rfl); (case zzk7 => decide); k_whole) | refine nameE_K (by k_asm) (by k_asm) (by k_asm) (by k_is) ?_ | refine nameE_B (by k_asm) (by k_asm) (by k_asm) (by k_is) (by boot_by_name) (by decide) ?_)))) | ((with_reducible show wpAny _ _ (compareOp _ (Value.ref _) (Value.ref _)) _ _ _); (with_reducible (k_here; (with_reducible show wpAny _ _ (compareOp CmpOp.NotEq (Value.ref _) (Value.ref _)) _ _ _); k_dflt (refine' ne_same ?zzk0 ?zzk1 ?zzk2 ?zzk3 ?zzk4 ?zzk5 ?zzk6 ?_; (case zzk1 => k_asm); (case zzk2 => k_asm); (case zzk3 => k_inst); (case zzk4 => k_is); (case zzk5 => k_is); (case zzk6 => k_is); (case zzk0 => first | assumption | k_units); k_whole)))) | ((with_reducible show wpAny _ _ (setItem (Value.ref _) (Value.int _ _) _) _ _ _); (with_reducible (k_here; (with_reducible show wpAny _ _ (setItem (Value.ref _) (Value.int _ _) _) _ _ _); k_dflt (refine' set_here ?zzk1 ?zzk2 ?zzk3 ?zzk4 ?zzk5 ?zzk6 ?zzk7 ?_; (case zzk1 => k_asm); (case zzk2 => k_asm); (case zzk3 => k_upd); (case zzk4 => decide); (case zzk5 => simp; done); (case zzk6 => decide); (case zzk7 => exact rfl); k_whole); intro h' F' N'; (simp only [List.setIfInBounds_toArray, Int.toNat_zero, Int.reduceToNat, List.set_cons_zero, List.set_cons_succ] at N'); (try k_sweep)))) | ((with_reducible show wpAny _ _ (getMethod (Value.ref _) _ _) _ _ _); (with_reducible (k_here; k_dflt (first | (refine' method_inst ?zzk1 ?zzk2 ?zzk3 ?zzk4 ?zzk5 ?zzk6 ?zzk7 ?_; (case zzk1 => k_asm); (case zzk2 => k_asm); (case zzk3 => k_inst); (case zzk4 => k_is); (case zzk5 => k_is); (case zzk6 => k_is); (case zzk7 => k_get); k_whole) | (refine' kmu_own ?zzk1 ?zzk2 ?zzk3 ?zzk4 ?zzk5 ?_; (case zzk1 => k_asm); (case zzk2 => k_asm); (case zzk3 => k_inst); (case zzk4 => k_is); (case zzk5 => k_is); k_whole) | (refine' kmu_sm ?zzk1 ?zzk2 ?zzk4 ?zzk5 ?zzk6 ?zzk7 ?zzk8 ?zzk9 ?zzk10 ?zzk11 ?zzk12 ?zzk13 ?zzk14 ?_; (case zzk1 => k_asm); (case zzk2 => k_asm); (case zzk4 => k_inst); (case zzk5 => k_is); (case zzk6 => k_is); (case zzk7 => k_is); (case zzk8 => k_is); (case zzk9 => k_is); (case zzk10 => k_is); (case zzk11 => decide +kernel); (case zzk12 => k_get); (case zzk13 => k_is); (case zzk14 => k_handed); k_whole))))) | walk1 | dsimp only))
            k_dflt (refine' mod_use1 (D := D9) (l := D8) (its := #[.ref x6]) (e1 := x6) (e2 := x6) ?kB ?kF ?kX ?kN ?kT ?hk ?U ht1 ?m1 ?m2 ?m3 ?m4 ?m5 ?m6 ?hit ?hsz ?hd ?ret)
            case kB => exact B'
            case kF => exact F3
            case kX => exact X'
            case kN => exact N3
            case kT => exact T'
            case hk => exact rfl
            case U => k_updF
            case m1 => (first | walk_at "mm" | k_mem)
            case m2 => (first | walk_at "mm" | k_mem)
            case m3 => (first | walk_at "mm" | k_mem)
            case m4 => (first | walk_at "mm" | k_mem)
            case m5 => (first | walk_at "mm" | k_mem)
            case m6 => (first | walk_at "mm" | k_mem)
            case hit =>
              intro i v h
              match i, h with
              | 0, h => exact .inl (Option.some.inj h).symm
              | i + 1, h => exact absurd h (by simp)
            case hsz => exact (by decide : 1 < 8)
            case hd => ktr_room
            case ret =>
              intro x5 dx5 t5 u5 v5 h3 tk3 gs3 ps3 ht3 gd5 gx5 F2 N2 k3 hb3
              (try dsimp only at gd5); (try dsimp only at gx5); (try dsimp only at N2)
              repeat' (first | (k_unfold; (try dsimp only)) | ((with_reducible refine qb1 ?_); (try dsimp only)) | ((with_reducible refine qb2 ?_); (try dsimp only)) | ((with_reducible refine qa1 ?_); (try dsimp only)) | ((with_reducible refine qa2 ?_); (try dsimp only [List.cons_append, List.nil_append])) | ((with_reducible refine qs1 ?_); (try dsimp only)) | ((with_reducible refine qs2 ?_); (try dsimp only)) | (with_reducible refine qs3 ?_) | (with_reducible refine qs4 ?_) | ((with_reducible refine qc1 ?_); (try dsimp only)) | ((with_reducible refine qu1 ?_); (try dsimp only)) | (with_reducible refine qu2 ?_) | ((with_reducible refine qg1 ?_); (try dsimp only)) | (with_reducible refine qg2 ?_) | ((with_reducible refine qt1 ?_); (try dsimp only)) | ((with_reducible refine qr1 ?_); (try dsimp only)) | (with_reducible refine qb0 ?_) | (with_reducible refine qu0 ?_) | ((with_reducible show wpAny _ _ (spliced (backTo _ (starEach (_ :: _) _))) _ _ _); k_dflt (refine qa0 ?_)) | ((with_reducible show wpAny _ _ (execs (_ :: _) _) _ _ _); first | (k_here; k_gentoks) | (with_reducible refine qs0 ?_)) | ((with_reducible show wpAny _ _ (eval (PySem.Expr.Call (PySem.Expr.Name _ _) _ [] _) _) _ _ _); (fail_if_success (with_reducible show wpAny _ _ (eval _ (compEnvC _ _ _ _)) _ _ _)); k_dflt (refine qc0 ?_)) | ((with_reducible show wpAny _ _ (exec (Stmt.Assign [PySem.Expr.Name _ _] _ _) _) _ _ _); (fail_if_success (with_reducible show wpAny _ _ (exec (Stmt.Assign _ (PySem.Expr.ListComp _ _ _ _) _) _) _ _ _)); k_dflt (refine qg0 ?_)) | ((with_reducible show wpAny _ _ (eval (PySem.Expr.Attribute (PySem.Expr.Name _ _) _ _) _) _ _ _); k_dflt (refine qt0 ?_)) | (with_reducible refine qr0 ?_) | ((with_reducible show wpAny _ _ (eval (PySem.Expr.Name _ _) _) _ _ _); (with_reducible (k_here; (with_reducible show wpAny _ _ (eval (Expr.Name _ _) (compEnvC _ _ _ _)) _ _ _); k_dflt (first | (refine' nameE_C ?zzk1 ?zzk2 ?zzk3 ?zzk4 ?_ ?zzk5 ?zzk6 ?zzk7; (case zzk6 => exact rfl); (case zzk1 => k_asm); (case zzk2 => exact rfl); (case zzk3 => (first | walk_at "mm" | k_mem)); (case zzk4 => first | assumption | exact rfl); (case zzk5 => exact rfl); (case zzk7 => decide); k_whole) | refine nameE_K (by k_asm) (by k_asm) (by k_asm) (by k_is) ?_ | refine nameE_B (by k_asm) (by k_asm) (by k_asm) (by k_is) (by boot_by_name) (by decide) ?_)))) | ((with_reducible show wpAny _ _ (compareOp _ (Value.ref _) (Value.ref _)) _ _ _); (with_reducible (k_here; (with_reducible show wpAny _ _ (compareOp CmpOp.NotEq (Value.ref _) (Value.ref _)) _ _ _); k_dflt (refine' ne_same ?zzk0 ?zzk1 ?zzk2 ?zzk3 ?zzk4 ?zzk5 ?zzk6 ?_; (case zzk1 => k_asm); (case zzk2 => k_asm); (case zzk3 => k_inst); (case zzk4 => k_is); (case zzk5 => k_is); (case zzk6 => k_is); (case zzk0 => first | assumption | k_units); k_whole)))) | ((with_reducible show wpAny _ _ (setItem (Value.ref _) (Value.int _ _) _) _ _ _); (with_reducible (k_here; (with_reducible show wpAny _ _ (setItem (Value.ref _) (Value.int _ _) _) _ _ _); k_dflt (refine' set_here ?zzk1 ?zzk2 ?zzk3 ?zzk4 ?zzk5 ?zzk6 ?zzk7 ?_; (case zzk1 => k_asm); (case zzk2 => k_asm); (case zzk3 => k_upd); (case zzk4 => decide); (case zzk5 => simp; done); (case zzk6 => decide); (case zzk7 => exact rfl); k_whole); intro h' F' N'; (simp only [List.setIfInBounds_toArray, Int.toNat_zero, Int.reduceToNat, List.set_cons_zero, List.set_cons_succ] at N'); (try k_sweep)))) | ((with_reducible show wpAny _ _ (getMethod (Value.ref _) _ _) _ _ _); (with_reducible (k_here; k_dflt (first | (refine' method_inst ?zzk1 ?zzk2 ?zzk3 ?zzk4 ?zzk5 ?zzk6 ?zzk7 ?_; (case zzk1 => k_asm); (case zzk2 => k_asm); (case zzk3 => k_inst); (case zzk4 => k_is); (case zzk5 => k_is); (case zzk6 => k_is); (case zzk7 => k_get); k_whole) | (refine' kmu_own ?zzk1 ?zzk2 ?zzk3 ?zzk4 ?zzk5 ?_; (case zzk1 => k_asm); (case zzk2 => k_asm); (case zzk3 => k_inst); (case zzk4 => k_is); (case zzk5 => k_is); k_whole) | (refine' kmu_sm ?zzk1 ?zzk2 ?zzk4 ?zzk5 ?zzk6 ?zzk7 ?zzk8 ?zzk9 ?zzk10 ?zzk11 ?zzk12 ?zzk13 ?zzk14 ?_; (case zzk1 => k_asm); (case zzk2 => k_asm); (case zzk4 => k_inst); (case zzk5 => k_is); (case zzk6 => k_is); (case zzk7 => k_is); (case zzk8 => k_is); (case zzk9 => k_is); (case zzk10 => k_is); (case zzk11 => decide +kernel); (case zzk12 => k_get); (case zzk13 => k_is); (case zzk14 => k_handed); k_whole))))) | (k_end; wrow_close) | walk1 | dsimp only | (leave1; try dsimp only) | fail "no step")
              refine DoneG.intro F2 N2 (fun hb => hb3 (hb2 _ hg6 hb)) ?_
              have hD9 : @LE.le Nat _ L' D9 := by omega
              have hD8 : @LE.le Nat _ L' D8 := by omega
              refine ⟨⟨by lcg_sub, ps3, ps7, ht3, ht7, by (first | walk_at "mm" | k_mem), by (first | walk_at "mm" | k_mem)⟩, x5, dx5, D9, D8, x6, dx6, cc6, t5, u5, v5, _, _, u6, v6, its6, kk6, rfl, by (first | walk_at "mm" | k_mem), by (first | walk_at "mm" | k_mem), by (first | walk_at "mm" | k_mem), by (first | walk_at "mm" | k_mem), by (first | walk_at "mm" | k_mem), by (first | walk_at "mm" | k_mem), by (first | walk_at "mm" | k_mem), hI6, gn_tabs gx5 ?b1 ?c1 ?a1, gn_tabs gd5 ?b2 ?c2 ?a2, gn_above l1' hD9, gn_above l1' hD8, gn_tabs w1 ?b3 ?c3 ?a3, gn_tabs w2 ?b4 ?c4 ?a4, gn_tabs w3 ?b5 ?c5 ?a5⟩
              case b1 => exact ⟨_, by (first | walk_at "mm" | k_mem)⟩
              case c1 => exact ⟨_, by (first | walk_at "mm" | k_mem)⟩
              case a1 => lcg_sub
              case b2 => exact ⟨_, by (first | walk_at "mm" | k_mem)⟩
              case c2 => exact ⟨_, by (first | walk_at "mm" | k_mem)⟩
              case a2 => lcg_sub
              case b3 => exact ⟨_, by (first | walk_at "mm" | k_mem)⟩
              case c3 => exact ⟨_, by (first | walk_at "mm" | k_mem)⟩
              case a3 => lcg_sub
              case b4 => exact ⟨_, by (first | walk_at "mm" | k_mem)⟩
              case c4 => exact ⟨_, by (first | walk_at "mm" | k_mem)⟩
              case a4 => lcg_sub
              case b5 => exact ⟨_, by (first | walk_at "mm" | k_mem)⟩
              case c5 => exact ⟨_, by (first | walk_at "mm" | k_mem)⟩
              case a5 => lcg_sub
end
theorem top_YDot : True := by
  w_top off
  trivial
set_option maxRecDepth 100000
set_option maxHeartbeats 8000000
set_option rowWalk.seconds 0
section
variable {w : World} {p : Program} {loose : List Str} {mean : ExcName → Option Value} {mg mb : Str → Option Value} {dp un : Nat} {gd : Option (List Code)} {cn : Str} {cs : Scope} {a : Addr} {ccd : Value} {cl : List (Str × Addr)} {outer : List Env} {A₀ : Around} {base h₀ : Heap} {L : Addr} {m : Str → Option Value} {news : List (Addr × Obj)} {s : Shared} {Q E : Value → Shared → Prop}
def DotP (P : Params) (R : Addr) (cL : List Int) (t1 t2 : Addr × Obj) (sub : List (Addr × Obj)) (v : Value) (_h : Heap) (led : List (Addr × Obj)) : Prop :=
  ((∀ p ∈ sub, p ∈ led) ∧ ∃ ps1 ps2, TriplesOk ps1.toList ∧ TriplesOk ps2.toList ∧ (t1.1, tabObj ps1) ∈ led ∧ (t2.1, tabObj ps2) ∈ led) ∧
  ∃ y dy c u1 u2 its kk, v = .ref y ∧ (y, instObj 581 dy) ∈ led ∧ (dy, polyDict P u1 u2 R c) ∈ led ∧ (c, listOf its.toArray kk) ∈ led ∧ IntsAre its cL ∧ GnNe y (t1 :: t2 :: sub) ∧ GnNe dy (t1 :: t2 :: sub) ∧ GnNe c (t1 :: t2 :: sub)
theorem mod_two {gg : Obj → List (Addr × Obj)} (B : Below A₀ base outer h₀) (F : Fr h₀ L s.heap m) (X : (hdK.heap_1_39 w.params).In h₀) (N : News h₀ L s.heap news) (T : Top p loose mean mg mb h₀) (hk : cs.kind = .function)
   {Mo dM R D l e1 e2 d1 d2 : Addr} {u1 : Tok} {kd kl : Nat} {b : Bool} {ps : Array Value}
   (U : UpdF 362 (tabObj ps) news gg) (ht : TriplesOk ps.toList)
   (m1 : (Mo, instObj 673 dM) ∈ news) (m2 : (dM, modDict w.params u1 R) ∈ news) (m3 : (D, listOf #[.ref l] kd) ∈ news) (m4 : (l, listOf #[.ref e1, .ref e2] kl) ∈ news) (m5 : (e1, instObj 581 d1) ∈ news) (m6 : (e2, instObj 581 d2) ∈ news)
   (hd : dp + 80 < recursionLimit)
   (ret : ∀ x dx t1 t2 t3 h' tk' gens' ps', TriplesOk ps'.toList → GnNe dx (gg (tabObj ps')) → GnNe x ((dx, matDict w.params t1 t2 t3 Mo D b) :: gg (tabObj ps')) → Fr h₀ L h' m → News h₀ L h' ((x, instObj 638 dx) :: (dx, matDict w.params t1 t2 t3 Mo D b) :: gg (tabObj ps')) → KeepsBut [362] s.heap h' → (AllBare s.gens → AllBare gens') → Q (.ref x) {s with heap := h', toks := tk', gens := gens'}) :
   wpAny (model (PySem.Challenge.rw_yi0033_01.row.toRowW.prog) w) (ktrTop dp un gd cn cs L a ccd cl outer) (call (.ref Mo) [.ref D, .bool b]) Q E s :=
  mod_use2 B F X N T hk U ht m1 m2 m3 m4 m5 m6 (fun i v h => match i, h with
    | 0, h => .inl (Option.some.inj h).symm
    | 1, h => .inr (Option.some.inj h).symm
    | i + 2, h => absurd h (by simp)) (by decide : 2 < 8) hd ret
theorem dot_use {g1' : Obj → List (Addr × Obj)} {g2' : Obj → Obj → List (Addr × Obj)} (B : Below A₀ base outer h₀) (F : Fr h₀ L s.heap m) (X : (hdK.heap_1_39 w.params).In h₀) (N : News h₀ L s.heap news) (T : Top p loose mean mg mb h₀) (hk : cs.kind = .function)
   {x1 dx1 Mo dM D1 a1 x2 dx2 D2 a2 y0 dy0 y1 dy1 z0 dz0 z1 dz1 R dR z f0 f1 g0 g1 : Addr} {t1 t2 t3 t4 t5 t6 b1 c1 c2 c3 c4 c5 c6 c7 e1 e2 e3 e4 e5 e6 e7 e8 : Tok} {kd1 kl1 kd2 kl2 kz kf0 kf1 kg0 kg1 : Nat} {zs fs0 fs1 gs0 gs1 : List Value} {fl0 fl1 gl0 gl1 : List Int} {ps1 ps2 : Array Value}
   (U1 : UpdF 362 (tabObj ps1) news g1') (U2 : ∀ o, UpdF 320 (tabObj ps2) (g1' o) (g2' o)) (ht1 : TriplesOk ps1.toList) (ht2 : TriplesOk ps2.toList)
   (m0 : (x1, instObj 638 dx1) ∈ news) (m1 : (dx1, matDict w.params t1 t2 t3 Mo D1 true) ∈ news) (m2 : (D1, listOf #[.ref a1] kd1) ∈ news) (m3 : (a1, listOf #[.ref y0, .ref y1] kl1) ∈ news) (m4 : (x2, instObj 638 dx2) ∈ news) (m5 : (dx2, matDict w.params t4 t5 t6 Mo D2 true) ∈ news) (m6 : (D2, listOf #[.ref a2] kd2) ∈ news) (m7 : (a2, listOf #[.ref z0, .ref z1] kl2) ∈ news) (m8 : (Mo, instObj 673 dM) ∈ news) (m9 : (dM, modDict w.params b1 R) ∈ news) (m10 : (R, instObj 437 dR) ∈ news) (m11 : (dR, ringDict w.params c1 c2 c3 c4 c5 c6 c7 z) ∈ news) (m12 : (z, listOf zs.toArray kz) ∈ news) (m13 : (y0, instObj 581 dy0) ∈ news) (m14 : (dy0, polyDict w.params e1 e2 R f0) ∈ news) (m15 : (f0, listOf fs0.toArray kf0) ∈ news) (m16 : (y1, instObj 581 dy1) ∈ news) (m17 : (dy1, polyDict w.params e3 e4 R f1) ∈ news) (m18 : (f1, listOf fs1.toArray kf1) ∈ news) (m19 : (z0, instObj 581 dz0) ∈ news) (m20 : (dz0, polyDict w.params e5 e6 R g0) ∈ news) (m21 : (g0, listOf gs0.toArray kg0) ∈ news) (m22 : (z1, instObj 581 dz1) ∈ news) (m23 : (dz1, polyDict w.params e7 e8 R g1) ∈ news) (m24 : (g1, listOf gs1.toArray kg1) ∈ news)
   (hZ : IntsAre zs zetaL) (hF0 : IntsAre fs0 fl0) (hF1 : IntsAre fs1 fl1) (hG0 : IntsAre gs0 gl0) (hG1 : IntsAre gs1 gl1) (lF0 : fl0.length = 256) (lF1 : fl1.length = 256) (lG0 : gl0.length = 256) (lG1 : gl1.length = 256) (sF0 : Small fl0) (sF1 : Small fl1) (sG0 : Small gl0) (sG1 : Small gl1)
   (hd : dp + 300 < recursionLimit) (hu1 : un + 300 < cLine)
   (ret : ∀ y dy c u1 u2 its kk h' tk' gens' ps1' ps2', TriplesOk ps1'.toList → TriplesOk ps2'.toList → IntsAre its (addP (mulP fl0 gl0 64) (mulP fl1 gl1 64)) → Fr h₀ L h' m →
     News h₀ L h' ((y, instObj 581 dy) :: (dy, polyDict w.params u1 u2 R c) :: (c, listOf its.toArray kk) :: g2' (tabObj ps1') (tabObj ps2')) →
     GnNe y (g2' (tabObj ps1') (tabObj ps2')) → GnNe dy (g2' (tabObj ps1') (tabObj ps2')) → GnNe c (g2' (tabObj ps1') (tabObj ps2')) →
     (AllBare s.gens → AllBare gens') → Q (.ref y) {s with heap := h', toks := tk', gens := gens'}) :
   wpAny (model (PySem.Challenge.rw_yi0033_01.row.toRowW.prog) w) (ktrTop dp un gd cn cs L a ccd cl outer) (call (.ref 330) [.ref x1, .ref x2]) Q E s := by
  have hsub : ∀ p ∈ [(x1, instObj 638 dx1), (dx1, matDict w.params t1 t2 t3 Mo D1 true), (D1, listOf #[.ref a1] kd1), (a1, listOf #[.ref y0, .ref y1] kl1), (x2, instObj 638 dx2), (dx2, matDict w.params t4 t5 t6 Mo D2 true), (D2, listOf #[.ref a2] kd2), (a2, listOf #[.ref z0, .ref z1] kl2), (Mo, instObj 673 dM), (dM, modDict w.params b1 R), (R, instObj 437 dR), (dR, ringDict w.params c1 c2 c3 c4 c5 c6 c7 z), (z, listOf zs.toArray kz), (y0, instObj 581 dy0), (dy0, polyDict w.params e1 e2 R f0), (f0, listOf fs0.toArray kf0), (y1, instObj 581 dy1), (dy1, polyDict w.params e3 e4 R f1), (f1, listOf fs1.toArray kf1), (z0, instObj 581 dz0), (dz0, polyDict w.params e5 e6 R g0), (g0, listOf gs0.toArray kg0), (z1, instObj 581 dz1), (dz1, polyDict w.params e7 e8 R g1), (g1, listOf gs1.toArray kg1)], p ∈ news := by
    repeat (first | exact List.forall_mem_nil _ | refine List.forall_mem_cons.mpr ⟨by assumption, ?_⟩)
  have n0 := UpdF.mem U1
  have n1 : (320, tabObj ps2) ∈ news := UpdF.mem' U1 (UpdF.mem (U2 default)) (by decide)
  have hcls : ∀ p ∈ [(x1, instObj 638 dx1), (dx1, matDict w.params t1 t2 t3 Mo D1 true), (D1, listOf #[.ref a1] kd1), (a1, listOf #[.ref y0, .ref y1] kl1), (x2, instObj 638 dx2), (dx2, matDict w.params t4 t5 t6 Mo D2 true), (D2, listOf #[.ref a2] kd2), (a2, listOf #[.ref z0, .ref z1] kl2), (Mo, instObj 673 dM), (dM, modDict w.params b1 R), (R, instObj 437 dR), (dR, ringDict w.params c1 c2 c3 c4 c5 c6 c7 z), (z, listOf zs.toArray kz), (y0, instObj 581 dy0), (dy0, polyDict w.params e1 e2 R f0), (f0, listOf fs0.toArray kf0), (y1, instObj 581 dy1), (dy1, polyDict w.params e3 e4 R f1), (f1, listOf fs1.toArray kf1), (z0, instObj 581 dz0), (dz0, polyDict w.params e5 e6 R g0), (g0, listOf gs0.toArray kg0), (z1, instObj 581 dz1), (dz1, polyDict w.params e7 e8 R g1), (g1, listOf gs1.toArray kg1)], p.2.cls ≠ .none := by
    repeat (first | exact List.forall_mem_nil _ | refine List.forall_mem_cons.mpr ⟨by first | exact hc1 | exact hc2 | exact hc3, ?_⟩)
  have h362 : GnNe 362 [(x1, instObj 638 dx1), (dx1, matDict w.params t1 t2 t3 Mo D1 true), (D1, listOf #[.ref a1] kd1), (a1, listOf #[.ref y0, .ref y1] kl1), (x2, instObj 638 dx2), (dx2, matDict w.params t4 t5 t6 Mo D2 true), (D2, listOf #[.ref a2] kd2), (a2, listOf #[.ref z0, .ref z1] kl2), (Mo, instObj 673 dM), (dM, modDict w.params b1 R), (R, instObj 437 dR), (dR, ringDict w.params c1 c2 c3 c4 c5 c6 c7 z), (z, listOf zs.toArray kz), (y0, instObj 581 dy0), (dy0, polyDict w.params e1 e2 R f0), (f0, listOf fs0.toArray kf0), (y1, instObj 581 dy1), (dy1, polyDict w.params e3 e4 R f1), (f1, listOf fs1.toArray kf1), (z0, instObj 581 dz0), (dz0, polyDict w.params e5 e6 R g0), (g0, listOf gs0.toArray kg0), (z1, instObj 581 dz1), (dz1, polyDict w.params e7 e8 R g1), (g1, listOf gs1.toArray kg1)] := gnNe_of fun p hp => UpdF.neq U1 (hsub p hp) (hcls p hp)
  have h320 : GnNe 320 [(x1, instObj 638 dx1), (dx1, matDict w.params t1 t2 t3 Mo D1 true), (D1, listOf #[.ref a1] kd1), (a1, listOf #[.ref y0, .ref y1] kl1), (x2, instObj 638 dx2), (dx2, matDict w.params t4 t5 t6 Mo D2 true), (D2, listOf #[.ref a2] kd2), (a2, listOf #[.ref z0, .ref z1] kl2), (Mo, instObj 673 dM), (dM, modDict w.params b1 R), (R, instObj 437 dR), (dR, ringDict w.params c1 c2 c3 c4 c5 c6 c7 z), (z, listOf zs.toArray kz), (y0, instObj 581 dy0), (dy0, polyDict w.params e1 e2 R f0), (f0, listOf fs0.toArray kf0), (y1, instObj 581 dy1), (dy1, polyDict w.params e3 e4 R f1), (f1, listOf fs1.toArray kf1), (z0, instObj 581 dz0), (dz0, polyDict w.params e5 e6 R g0), (g0, listOf gs0.toArray kg0), (z1, instObj 581 dz1), (dz1, polyDict w.params e7 e8 R g1), (g1, listOf gs1.toArray kg1)] := gnNe_of fun p hp => UpdF.neq (U2 (tabObj ps1)) (UpdF.stay U1 (hsub p hp) (fun q => gn_ne h362 p hp q)) (hcls p hp)
  clear hcls
  have N2 : News h₀ L s.heap (((362 : Addr), tabObj ps1) :: ((320 : Addr), tabObj ps2) :: [(x1, instObj 638 dx1), (dx1, matDict w.params t1 t2 t3 Mo D1 true), (D1, listOf #[.ref a1] kd1), (a1, listOf #[.ref y0, .ref y1] kl1), (x2, instObj 638 dx2), (dx2, matDict w.params t4 t5 t6 Mo D2 true), (D2, listOf #[.ref a2] kd2), (a2, listOf #[.ref z0, .ref z1] kl2), (Mo, instObj 673 dM), (dM, modDict w.params b1 R), (R, instObj 437 dR), (dR, ringDict w.params c1 c2 c3 c4 c5 c6 c7 z), (z, listOf zs.toArray kz), (y0, instObj 581 dy0), (dy0, polyDict w.params e1 e2 R f0), (f0, listOf fs0.toArray kf0), (y1, instObj 581 dy1), (dy1, polyDict w.params e3 e4 R f1), (f1, listOf fs1.toArray kf1), (z0, instObj 581 dz0), (dz0, polyDict w.params e5 e6 R g0), (g0, listOf gs0.toArray kg0), (z1, instObj 581 dz1), (dz1, polyDict w.params e7 e8 R g1), (g1, listOf gs1.toArray kg1)]) := News.sub N (List.forall_mem_cons.mpr ⟨n0, List.forall_mem_cons.mpr ⟨n1, hsub⟩⟩)
  clear m0 m1 m2 m3 m4 m5 m6 m7 m8 m9 m10 m11 m12 m13 m14 m15 m16 m17 m18 m19 m20 m21 m22 m23 m24 hsub
  refine wpAny_call ?_
  k_dflt (refine' code_S (fun g => DoneG g s (DotP w.params R (addP (mulP fl0 gl0 64) (mulP fl1 gl1 64)) (362, tabObj ps1) (320, tabObj ps2) [(x1, instObj 638 dx1), (dx1, matDict w.params t1 t2 t3 Mo D1 true), (D1, listOf #[.ref a1] kd1), (a1, listOf #[.ref y0, .ref y1] kl1), (x2, instObj 638 dx2), (dx2, matDict w.params t4 t5 t6 Mo D2 true), (D2, listOf #[.ref a2] kd2), (a2, listOf #[.ref z0, .ref z1] kl2), (Mo, instObj 673 dM), (dM, modDict w.params b1 R), (R, instObj 437 dR), (dR, ringDict w.params c1 c2 c3 c4 c5 c6 c7 z), (z, listOf zs.toArray kz), (y0, instObj 581 dy0), (dy0, polyDict w.params e1 e2 R f0), (f0, listOf fs0.toArray kf0), (y1, instObj 581 dy1), (dy1, polyDict w.params e3 e4 R f1), (f1, listOf fs1.toArray kf1), (z0, instObj 581 dz0), (dz0, polyDict w.params e5 e6 R g0), (g0, listOf gs0.toArray kg0), (z1, instObj 581 dz1), (dz1, polyDict w.params e7 e8 R g1), (g1, listOf gs1.toArray kg1)])) ?k1 ?k2 ?k3 N2 ?k5 ?kA ?kF ?kK ?k6 ?k7 ?k8 ?k9 ?kB ?_ ?fin ?c2 ?c3 ?c4 ?c5; ((case kA => exact rfl); (case kF => first | exact rfl | assumption); (case kK => assumption); (case k1 => k_asm); (case k2 => k_asm); (case k3 => k_asm); (case k5 => k_asm); (case k6 => k_is); (case k7 => k_is); (case k8 => ktr_room); (case k9 => first | exact BindsTo.of_eq rfl | exact binds_K (by k_in) rfl (by k_is) rfl rfl rfl); (case c5 => decide); (case kB => exact locs rfl); (case c2 => exact rfl); (case c3 => exact rfl); (case c4 => exact rfl)))
  case fin =>
    intro v s' d
    obtain ⟨h', tk, gens', led, ps1', ps2', rfl, k, ht1', ht2', eP1, eP2, hl, hb, hs, y, dy, c, u1, u2, its, kk, rfl, q5, q6, q7, hI, r5, r6, r7⟩ := DoneG.tab2 d (fun p hp => (N2 p hp).1) (fun _ _ _ q => q.1)
    have w5 := fresh_of hl q5 r5
    have w6 := fresh_of hl q6 r6
    have w7 := fresh_of hl q7 r7
    have F1 := Fr.after2 F N n0 n1 k
    have N1 := UpdF.after N U1 U2 k eP1 eP2
    have gg : ∀ d, s.heap.get? d = none → GnNe d (g2' (tabObj ps1') (tabObj ps2')) := fun d e => gn_upd (U2 _) (gn_upd U1 (fresh_ne N e))
    exact ret y dy c u1 u2 its kk h' tk gens' ps1' ps2' ht1' ht2' hI F1
      (fresh_news F w5 (fresh_news F w6 (fresh_news F w7 N1 (hl _ q7).1) (hl _ q6).1) (hl _ q5).1)
      (gg _ w5) (gg _ w6) (gg _ w7) hb
  intro g' L' h' F' N' B' X' T' l1
  have hu9 : un + 3 + 100 < cLine := by omega
  have l1' := l1
  clear N2 N F X ret U1 U2 n0 n1
  k_lt l1
  with_reducible show wpAny _ _ _ _ _ _
  k_fold
  repeat' (first | (k_unfold; (try dsimp only)) | ((with_reducible refine qb1 ?_); (try dsimp only)) | ((with_reducible refine qb2 ?_); (try dsimp only)) | ((with_reducible refine qa1 ?_); (try dsimp only)) | ((with_reducible refine qa2 ?_); (try dsimp only [List.cons_append, List.nil_append])) | ((with_reducible refine qs1 ?_); (try dsimp only)) | ((with_reducible refine qs2 ?_); (try dsimp only)) | (with_reducible refine qs3 ?_) | (with_reducible refine qs4 ?_) | ((with_reducible refine qc1 ?_); (try dsimp only)) | ((with_reducible refine qu1 ?_); (try dsimp only)) | (with_reducible refine qu2 ?_) | ((with_reducible refine qg1 ?_); (try dsimp only)) | (with_reducible refine qg2 ?_) | ((with_reducible refine qt1 ?_); (try dsimp only)) | ((with_reducible refine qr1 ?_); (try dsimp only)) | (with_reducible refine qb0 ?_) | (with_reducible refine qu0 ?_) | ((with_reducible show wpAny _ _ (spliced (backTo _ (starEach (_ :: _) _))) _ _ _); k_dflt (refine qa0 ?_)) | ((with_reducible show wpAny _ _ (execs (_ :: _) _) _ _ _); first | (k_here; k_gentoks) | (with_reducible refine qs0 ?_)) | ((with_reducible show wpAny _ _ (eval (PySem.Expr.Call (PySem.Expr.Name _ _) _ [] _) _) _ _ _); (fail_if_success (with_reducible show wpAny _ _ (eval _ (compEnvC _ _ _ _)) _ _ _)); k_dflt (refine qc0 ?_)) | ((with_reducible show wpAny _ _ (exec (Stmt.Assign [PySem.Expr.Name _ _] _ _) _) _ _ _); (fail_if_success (with_reducible show wpAny _ _ (exec (Stmt.Assign _ (PySem.Expr.ListComp _ _ _ _) _) _) _ _ _)); k_dflt (refine qg0 ?_)) | ((with_reducible show wpAny _ _ (eval (PySem.Expr.Attribute (PySem.Expr.Name _ _) _ _) _) _ _ _); k_dflt (refine qt0 ?_)) | (with_reducible refine qr0 ?_) | ((with_reducible show wpAny _ _ (call (Value.ref _) _ _) _ _ _); first | (with_reducible (k_here; (with_reducible show wpAny _ _ (call (Value.ref 323) _) _ _ _); k_dflt (refine' matmul_use ?zzk1 ?zzk2 ?zzk3 ?zzk4 ?zzk5 ?zzk6 ?zzu1 ?zzu2 ?zzt1 ?zzt2 ?zzm0 ?zzm1 ?zzm2 ?zzm3 ?zzm4 ?zzm5 ?zzm6 ?zzm7 ?zzm8 ?zzm9 ?zzm10 ?zzm11 ?zzm12 ?zzm13 ?zzm14 ?zzm15 ?zzm16 ?zzm17 ?zzm18 ?zzm19 ?zzm20 ?zzm21 ?zzm22 ?zzm23 ?zzm24 ?zzhZ ?zzhF0 ?zzhF1 ?zzhG0 ?zzhG1 ?zzlF0 ?zzlF1 ?zzlG0 ?zzlG1 ?zzsF0 ?zzsF1 ?zzsG0 ?zzsG1 ?zzd1 ?zzd2 ?_; (case zzk1 => k_asm); (case zzk2 => k_asm); (case zzk3 => k_asm); (case zzk4 => k_asm); (case zzk5 => k_asm); (case zzk6 => first | exact rfl | assumption); (case zzu1 => k_updF); (case zzu2 => (intro o9; (try dsimp only); k_updF)); (case zzt1 => assumption); (case zzt2 => assumption); (case zzm0 => (first | walk_at "mm" | k_mem)); (case zzm1 => (first | walk_at "mm" | k_mem)); (case zzm2 => (first | walk_at "mm" | k_mem)); (case zzm3 => (first | walk_at "mm" | k_mem)); (case zzm4 => (first | walk_at "mm" | k_mem)); (case zzm5 => (first | walk_at "mm" | k_mem)); (case zzm6 => (first | walk_at "mm" | k_mem)); (case zzm7 => (first | walk_at "mm" | k_mem)); (case zzm8 => (first | walk_at "mm" | k_mem)); (case zzm9 => (first | walk_at "mm" | k_mem)); (case zzm10 => (first | walk_at "mm" | k_mem)); (case zzm11 => (first | walk_at "mm" | k_mem)); (case zzm12 => (first | walk_at "mm" | k_mem)); (case zzm13 => (first | walk_at "mm" | k_mem)); (case zzm14 => (first | walk_at "mm" | k_mem)); (case zzm15 => (first | walk_at "mm" | k_mem)); (case zzm16 => (first | walk_at "mm" | k_mem)); (case zzm17 => (first | walk_at "mm" | k_mem)); (case zzm18 => (first | walk_at "mm" | k_mem)); (case zzm19 => (first | walk_at "mm" | k_mem)); (case zzm20 => (first | walk_at "mm" | k_mem)); (case zzm21 => (first | walk_at "mm" | k_mem)); (case zzm22 => (first | walk_at "mm" | k_mem)); (case zzm23 => (first | walk_at "mm" | k_mem)); (case zzm24 => (first | walk_at "mm" | k_mem)); (case zzhZ => assumption); (case zzhF0 => assumption); (case zzhF1 => assumption); (case zzhG0 => assumption); (case zzhG1 => assumption); (case zzlF0 => assumption); (case zzlF1 => assumption); (case zzlG0 => assumption); (case zzlG1 => assumption); (case zzsF0 => assumption); (case zzsF1 => assumption); (case zzsG0 => assumption); (case zzsG1 => assumption); (case zzd1 => ktr_room); (case zzd2 => first | assumption | decide); k_whole); (intro x9 dx9 D9 a9 y9 dy9 c9 t9 u9 v9 kd9 ka9 w9 z9 its9 kk9 h9 tk9 gs9 ps9 qs9 ht9 hq9 hI9 F9 N9 g1 g2 g3 g4 g5 g6 g7 hb9); (try dsimp only at N9); (try dsimp only at g1); (try dsimp only at g2); (try dsimp only at g3); (try dsimp only at g4); (try dsimp only at g5); (try dsimp only at g6); (try dsimp only at g7))) | (with_reducible (k_here; (with_reducible show wpAny _ _ (call (Value.ref _) [Value.ref _, Value.bool _]) _ _ _); k_dflt (refine' mod_two ?zzk1 ?zzk2 ?zzk3 ?zzk4 ?zzk5 ?zzk6 ?zzu1 ?zzt1 ?zzm1 ?zzm2 ?zzm3 ?zzm4 ?zzm5 ?zzm6 ?zzd1 ?_; (case zzk1 => k_asm); (case zzk2 => k_asm); (case zzk3 => k_asm); (case zzk4 => k_asm); (case zzk5 => k_asm); (case zzk6 => first | exact rfl | assumption); (case zzu1 => k_updF); (case zzt1 => assumption); (case zzm1 => (first | walk_at "mm" | k_mem)); (case zzm2 => (first | walk_at "mm" | k_mem)); (case zzm3 => (first | walk_at "mm" | k_mem)); (case zzm4 => (first | walk_at "mm" | k_mem)); (case zzm5 => (first | walk_at "mm" | k_mem)); (case zzm6 => (first | walk_at "mm" | k_mem)); (case zzd1 => ktr_room); k_whole); (intro x9 dx9 t9 u9 v9 h9 tk9 gs9 ps9 ht9 g9 gg9 F9 N9 k9 hb9; clear k9); (try dsimp only at g9); (try dsimp only at gg9); (try dsimp only at N9)))) | ((with_reducible show wpAny _ _ (binaryOp _ (Value.ref _) (Value.ref _)) _ _ _); (with_reducible (k_here; (with_reducible show wpAny _ _ (binaryOp _ (Value.ref _) (Value.ref _)) _ _ _); k_dflt (refine' binop_K ?zzk1 ?zzk2 ?zzk3 ?zzk4 ?zzk5 ?zzk6 ?zzk7 ?_; (case zzk1 => k_asm); (case zzk2 => k_asm); (case zzk3 => k_inst); (case zzk4 => k_typeOf); (case zzk5 => k_is); (case zzk6 => k_is); (case zzk7 => k_is); k_whole)))) | ((with_reducible show wpAny _ _ (setItem (Value.ref _) (Value.int _ _) _) _ _ _); (with_reducible (k_here; (with_reducible show wpAny _ _ (setItem (Value.ref _) (Value.int _ _) _) _ _ _); k_dflt (refine' set_here ?zzk1 ?zzk2 ?zzk3 ?zzk4 ?zzk5 ?zzk6 ?zzk7 ?_; (case zzk1 => k_asm); (case zzk2 => k_asm); (case zzk3 => k_upd); (case zzk4 => decide); (case zzk5 => simp; done); (case zzk6 => decide); (case zzk7 => exact rfl); k_whole); intro h' F' N'; (simp only [List.setIfInBounds_toArray, Int.toNat_zero, Int.reduceToNat, List.set_cons_zero, List.set_cons_succ] at N'); (try k_sweep)))) | ((with_reducible show wpAny _ _ (getMethod (Value.ref _) _ _) _ _ _); (with_reducible (k_here; k_dflt (first | (refine' method_inst ?zzk1 ?zzk2 ?zzk3 ?zzk4 ?zzk5 ?zzk6 ?zzk7 ?_; (case zzk1 => k_asm); (case zzk2 => k_asm); (case zzk3 => k_inst); (case zzk4 => k_is); (case zzk5 => k_is); (case zzk6 => k_is); (case zzk7 => k_get); k_whole) | (refine' kmu_own ?zzk1 ?zzk2 ?zzk3 ?zzk4 ?zzk5 ?_; (case zzk1 => k_asm); (case zzk2 => k_asm); (case zzk3 => k_inst); (case zzk4 => k_is); (case zzk5 => k_is); k_whole) | (refine' kmu_sm ?zzk1 ?zzk2 ?zzk4 ?zzk5 ?zzk6 ?zzk7 ?zzk8 ?zzk9 ?zzk10 ?zzk11 ?zzk12 ?zzk13 ?zzk14 ?_; (case zzk1 => k_asm); (case zzk2 => k_asm); (case zzk4 => k_inst); (case zzk5 => k_is); (case zzk6 => k_is); (case zzk7 => k_is); (case zzk8 => k_is); (case zzk9 => k_is); (case zzk10 => k_is); (case zzk11 => decide +kernel); (case zzk12 => k_get); (case zzk13 => k_is); (case zzk14 => k_handed); k_whole))))) | (k_end; wrow_close) | walk1 | dsimp only | (leave1; try dsimp only) | fail "no step")
  dsimp only [PySem.W.CmpBack]
  repeat' (first | (k_unfold; (try dsimp only)) | ((with_reducible refine qb1 ?_); (try dsimp only)) | ((with_reducible refine qb2 ?_); (try dsimp only)) | ((with_reducible refine qa1 ?_); (try dsimp only)) | ((with_reducible refine qa2 ?_); (try dsimp only [List.cons_append, List.nil_append])) | ((with_reducible refine qs1 ?_); (try dsimp only)) | ((with_reducible refine qs2 ?_); (try dsimp only)) | (with_reducible refine qs3 ?_) | (with_reducible refine qs4 ?_) | ((with_reducible refine qc1 ?_); (try dsimp only)) | ((with_reducible refine qu1 ?_); (try dsimp only)) | (with_reducible refine qu2 ?_) | ((with_reducible refine qg1 ?_); (try dsimp only)) | (with_reducible refine qg2 ?_) | ((with_reducible refine qt1 ?_); (try dsimp only)) | ((with_reducible refine qr1 ?_); (try dsimp only)) | (with_reducible refine qb0 ?_) | (with_reducible refine qu0 ?_) | ((with_reducible show wpAny _ _ (spliced (backTo _ (starEach (_ :: _) _))) _ _ _); k_dflt (refine qa0 ?_)) | ((with_reducible show wpAny _ _ (execs (_ :: _) _) _ _ _); first | (k_here; k_gentoks) | (with_reducible refine qs0 ?_)) | ((with_reducible show wpAny _ _ (eval (PySem.Expr.Call (PySem.Expr.Name _ _) _ [] _) _) _ _ _); (fail_if_success (with_reducible show wpAny _ _ (eval _ (compEnvC _ _ _ _)) _ _ _)); k_dflt (refine qc0 ?_)) | ((with_reducible show wpAny _ _ (exec (Stmt.Assign [PySem.Expr.Name _ _] _ _) _) _ _ _); (fail_if_success (with_reducible show wpAny _ _ (exec (Stmt.Assign _ (PySem.Expr.ListComp _ _ _ _) _) _) _ _ _)); k_dflt (refine qg0 ?_)) | ((with_reducible show wpAny _ _ (eval (PySem.Expr.Attribute (PySem.Expr.Name _ _) _ _) _) _ _ _); k_dflt (refine qt0 ?_)) | (with_reducible refine qr0 ?_) | ((with_reducible show wpAny _ _ (call (Value.ref _) _ _) _ _ _); first | (with_reducible (k_here; (with_reducible show wpAny _ _ (call (Value.ref 323) _) _ _ _); k_dflt (refine' matmul_use ?zzk1 ?zzk2 ?zzk3 ?zzk4 ?zzk5 ?zzk6 ?zzu1 ?zzu2 ?zzt1 ?zzt2 ?zzm0 ?zzm1 ?zzm2 ?zzm3 ?zzm4 ?zzm5 ?zzm6 ?zzm7 ?zzm8 ?zzm9 ?zzm10 ?zzm11 ?zzm12 ?zzm13 ?zzm14 ?zzm15 ?zzm16 ?zzm17 ?zzm18 ?zzm19 ?zzm20 ?zzm21 ?zzm22 ?zzm23 ?zzm24 ?zzhZ ?zzhF0 ?zzhF1 ?zzhG0 ?zzhG1 ?zzlF0 ?zzlF1 ?zzlG0 ?zzlG1 ?zzsF0 ?zzsF1 ?zzsG0 ?zzsG1 ?zzd1 ?zzd2 ?_; (case zzk1 => k_asm); (case zzk2 => k_asm); (case zzk3 => k_asm); (case zzk4 => k_asm); (case zzk5 => k_asm); (case zzk6 => first | exact rfl | assumption); (case zzu1 => k_updF); (case zzu2 => (intro o9; (try dsimp only); k_updF)); (case zzt1 => assumption); (case zzt2 => assumption); (case zzm0 => (first | walk_at "mm" | k_mem)); (case zzm1 => (first | walk_at "mm" | k_mem)); (case zzm2 => (first | walk_at "mm" | k_mem)); (case zzm3 => (first | walk_at "mm" | k_mem)); (case zzm4 => (first | walk_at "mm" | k_mem)); (case zzm5 => (first | walk_at "mm" | k_mem)); (case zzm6 => (first | walk_at "mm" | k_mem)); (case zzm7 => (first | walk_at "mm" | k_mem)); (case zzm8 => (first | walk_at "mm" | k_mem)); (case zzm9 => (first | walk_at "mm" | k_mem)); (case zzm10 => (first | walk_at "mm" | k_mem)); (case zzm11 => (first | walk_at "mm" | k_mem)); (case zzm12 => (first | walk_at "mm" | k_mem)); (case zzm13 => (first | walk_at "mm" | k_mem)); (case zzm14 => (first | walk_at "mm" | k_mem)); (case zzm15 => (first | walk_at "mm" | k_mem)); (case zzm16 => (first | walk_at "mm" | k_mem)); (case zzm17 => (first | walk_at "mm" | k_mem)); (case zzm18 => (first | walk_at "mm" | k_mem)); (case zzm19 => (first | walk_at "mm" | k_mem)); (case zzm20 => (first | walk_at "mm" | k_mem)); (case zzm21 => (first | walk_at "mm" | k_mem)); (case zzm22 => (first | walk_at "mm" | k_mem)); (case zzm23 => (first | walk_at "mm" | k_mem)); (case zzm24 => (first | walk_at "mm" | k_mem)); (case zzhZ => assumption); (case zzhF0 => assumption); (case zzhF1 => assumption); (case zzhG0 => assumption); (case zzhG1 => assumption); (case zzlF0 => assumption); (case zzlF1 => assumption); (case zzlG0 => assumption); (case zzlG1 => assumption); (case zzsF0 => assumption); (case zzsF1 => assumption); (case zzsG0 => assumption); (case zzsG1 => assumption); (case zzd1 => ktr_room); (case zzd2 => first | assumption | decide); k_whole); (intro x9 dx9 D9 a9 y9 dy9 c9 t9 u9 v9 kd9 ka9 w9 z9 its9 kk9 h9 tk9 gs9 ps9 qs9 ht9 hq9 hI9 F9 N9 g1 g2 g3 g4 g5 g6 g7 hb9); (try dsimp only at N9); (try dsimp only at g1); (try dsimp only at g2); (try dsimp only at g3); (try dsimp only at g4); (try dsimp only at g5); (try dsimp only at g6); (try dsimp only at g7))) | (with_reducible (k_here; (with_reducible show wpAny _ _ (call (Value.ref _) [Value.ref _, Value.bool _]) _ _ _); k_dflt (refine' mod_two ?zzk1 ?zzk2 ?zzk3 ?zzk4 ?zzk5 ?zzk6 ?zzu1 ?zzt1 ?zzm1 ?zzm2 ?zzm3 ?zzm4 ?zzm5 ?zzm6 ?zzd1 ?_; (case zzk1 => k_asm); (case zzk2 => k_asm); (case zzk3 => k_asm); (case zzk4 => k_asm); (case zzk5 => k_asm); (case zzk6 => first | exact rfl | assumption); (case zzu1 => k_updF); (case zzt1 => assumption); (case zzm1 => (first | walk_at "mm" | k_mem)); (case zzm2 => (first | walk_at "mm" | k_mem)); (case zzm3 => (first | walk_at "mm" | k_mem)); (case zzm4 => (first | walk_at "mm" | k_mem)); (case zzm5 => (first | walk_at "mm" | k_mem)); (case zzm6 => (first | walk_at "mm" | k_mem)); (case zzd1 => ktr_room); k_whole); (intro x9 dx9 t9 u9 v9 h9 tk9 gs9 ps9 ht9 g9 gg9 F9 N9 k9 hb9; clear k9); (try dsimp only at g9); (try dsimp only at gg9); (try dsimp only at N9)))) | ((with_reducible show wpAny _ _ (binaryOp _ (Value.ref _) (Value.ref _)) _ _ _); (with_reducible (k_here; (with_reducible show wpAny _ _ (binaryOp _ (Value.ref _) (Value.ref _)) _ _ _); k_dflt (refine' binop_K ?zzk1 ?zzk2 ?zzk3 ?zzk4 ?zzk5 ?zzk6 ?zzk7 ?_; (case zzk1 => k_asm); (case zzk2 => k_asm); (case zzk3 => k_inst); (case zzk4 => k_typeOf); (case zzk5 => k_is); (case zzk6 => k_is); (case zzk7 => k_is); k_whole)))) | ((with_reducible show wpAny _ _ (setItem (Value.ref _) (Value.int _ _) _) _ _ _); (with_reducible (k_here; (with_reducible show wpAny _ _ (setItem (Value.ref _) (Value.int _ _) _) _ _ _); k_dflt (refine' set_here ?zzk1 ?zzk2 ?zzk3 ?zzk4 ?zzk5 ?zzk6 ?zzk7 ?_; (case zzk1 => k_asm); (case zzk2 => k_asm); (case zzk3 => k_upd); (case zzk4 => decide); (case zzk5 => simp; done); (case zzk6 => decide); (case zzk7 => exact rfl); k_whole); intro h' F' N'; (simp only [List.setIfInBounds_toArray, Int.toNat_zero, Int.reduceToNat, List.set_cons_zero, List.set_cons_succ] at N'); (try k_sweep)))) | ((with_reducible show wpAny _ _ (getMethod (Value.ref _) _ _) _ _ _); (with_reducible (k_here; k_dflt (first | (refine' method_inst ?zzk1 ?zzk2 ?zzk3 ?zzk4 ?zzk5 ?zzk6 ?zzk7 ?_; (case zzk1 => k_asm); (case zzk2 => k_asm); (case zzk3 => k_inst); (case zzk4 => k_is); (case zzk5 => k_is); (case zzk6 => k_is); (case zzk7 => k_get); k_whole) | (refine' kmu_own ?zzk1 ?zzk2 ?zzk3 ?zzk4 ?zzk5 ?_; (case zzk1 => k_asm); (case zzk2 => k_asm); (case zzk3 => k_inst); (case zzk4 => k_is); (case zzk5 => k_is); k_whole) | (refine' kmu_sm ?zzk1 ?zzk2 ?zzk4 ?zzk5 ?zzk6 ?zzk7 ?zzk8 ?zzk9 ?zzk10 ?zzk11 ?zzk12 ?zzk13 ?zzk14 ?_; (case zzk1 => k_asm); (case zzk2 => k_asm); (case zzk4 => k_inst); (case zzk5 => k_is); (case zzk6 => k_is); (case zzk7 => k_is); (case zzk8 => k_is); (case zzk9 => k_is); (case zzk10 => k_is); (case zzk11 => decide +kernel); (case zzk12 => k_get); (case zzk13 => k_is); (case zzk14 => k_handed); k_whole))))) | (k_end; wrow_close) | walk1 | dsimp only | (leave1; try dsimp only) | fail "no step")
  all_goals (try dsimp only)
  all_goals (try (k_unfold; dsimp only))
  refine DoneG.intro (by k_asm) (by k_asm) ?hbb ?_
  case hbb =>
    intro hb
    repeat (first | exact hb | refine (show AllBare _ → AllBare _ from by assumption) ?_)
  refine' ⟨⟨?sb, _, _, ?t1, ?t2, ?k1, ?k2⟩, _, _, _, _, _, _, _, rfl, ?e1, ?e2, ?e3, ?hI, gn_tabs ?b1 ?p1 ?q1 ?a1, gn_tabs ?b2 ?p2 ?q2 ?a2, gn_tabs ?b3 ?p3 ?q3 ?a3⟩
  case k1 => (first | walk_at "mm" | k_mem)
  case k2 => (first | walk_at "mm" | k_mem)
  case e1 => (first | walk_at "mm" | k_mem)
  case e2 => (first | walk_at "mm" | k_mem)
  case e3 => (first | walk_at "mm" | k_mem)
  case t1 => assumption
  case t2 => assumption
  case hI => assumption
  case b1 => assumption
  case b2 => assumption
  case b3 => assumption
  case sb => lcg_sub
  case p1 => exact ⟨_, by (first | walk_at "mm" | k_mem)⟩
  case q1 => exact ⟨_, by (first | walk_at "mm" | k_mem)⟩
  case a1 => lcg_sub
  case p2 => exact ⟨_, by (first | walk_at "mm" | k_mem)⟩
  case q2 => exact ⟨_, by (first | walk_at "mm" | k_mem)⟩
  case a2 => lcg_sub
  case p3 => exact ⟨_, by (first | walk_at "mm" | k_mem)⟩
  case q3 => exact ⟨_, by (first | walk_at "mm" | k_mem)⟩
  case a3 => lcg_sub
end
set_option maxRecDepth 100000
theorem off3_gn {I C D : Addr} {news : List (Addr × Obj)} (h : LCg.Off3 I C D news) (ne : (@Ne Nat I C) ∧ (@Ne Nat I D) ∧ (@Ne Nat C D)) : GnNe I ((C, dictNone) :: (D, dictNone) :: news) ∧ GnNe C ((D, dictNone) :: news) ∧ GnNe D news :=
  ⟨⟨Ne.symm ne.1, Ne.symm ne.2.1, gnNe_of fun p hp => (h.mem p hp).1⟩, ⟨Ne.symm ne.2.2, gnNe_of fun p hp => (h.mem p hp).2.1⟩, gnNe_of fun p hp => (h.mem p hp).2.2⟩
theorem off1_gn {D : Addr} : ∀ {news : List (Addr × Obj)}, LCg.Off1 D news → GnNe D news
  | [], _ => trivial
  | _ :: _, h => ⟨h.1, off1_gn h.2⟩
theorem row_len {ys : List Value} {c : List Int} (h : IntsAre ys c) (r : Row256 c) : ys.length = 256 := h.length.trans r.1
theorem row_small {c : List Int} (r : Row256 c) : ∀ x ∈ c, 0 ≤ x ∧ x < 3329 := r.2
theorem listcopy_use {prog : Program} {w : World} {A : Around} {E : Value → Shared → Prop} {s : Shared} {h₀ : Heap} {L b : Addr} {m : Str → Option Value} {news : List (Addr × Obj)} {ys : List Value} {c : List Int} {kk : Nat} {Q : Value → Shared → Prop}
    (F : Fr h₀ L s.heap m) (N : News h₀ L s.heap news) (hb : (b, listOf ys.toArray kk) ∈ news) (hI : IntsAre ys c) (hr : Row256 c)
    (h : ∀ D k h', Fr h₀ L h' m → News h₀ L h' ((D, listOf ys.toArray k) :: news) → (∀ q ∈ news, q.1 < D) → Q (.ref D) { s with heap := h' }) : wpAny (model prog w) A (call (.type "list") [.ref b]) Q E s :=
  kup_listOf F N hb (by simp) h (by rw [show ys.toArray.toList = ys by simp, row_len hI hr]; decide)
set_option maxRecDepth 100000
set_option maxHeartbeats 4000000
section
variable {prog : Program} {w : World} {A : Around} {E : Value → Shared → Prop} {s : Shared} {env : Env} {h₀ : Heap} {x : Str} {body : List Stmt} {Q : Flow → Shared → Prop}
theorem list_restJ {I : Addr} {lp : Addr × Obj} {Pv : Value → Prop} (J : (Str → Option Value) → List (Addr × Obj) → Prop) (hkeep : ∀ m n, J m n → lp ∈ n)
    (turn : ∀ v m₁ news₁ (it : Obj) h tk, it.cls = .type "list_iterator" → Pv v → J m₁ news₁ → Fr h₀ env.locals h (fun y => if y = x then some v else m₁ y) → News h₀ env.locals h ((I, it) :: news₁) →
      wpAny (model prog w) A (execs body env) (UnrPost h₀ env.locals { s with heap := h, toks := tk } I it J Q) E { s with heap := h, toks := tk })
    (done : ∀ m₁ news₁ h tk, J m₁ news₁ → Fr h₀ env.locals h m₁ → News h₀ env.locals h news₁ → Q .next { s with heap := h, toks := tk }) :
    ∀ (vs : List Value) m news, (∀ v ∈ vs, Pv v) → J m news → ListRest prog w A E h₀ env x body Q s I lp vs m news
  | [], m, news, _, j => ListRest.zero fun h tk F N => done m news h tk j F N
  | v :: r, m, news, hp, j => ListRest.succ fun it h tk hc F N =>
    wpAny_mono (turn v m news it h tk hc (hp v (.head _)) j F N) (fun f s₂ p => UnrPost.mono (fun m' n' j' => ⟨hkeep _ _ j', list_restJ J hkeep turn done r m' n' (fun v' hv => hp v' (.tail _ hv)) j'⟩) p) fun _ _ e => e
theorem list_inv {ax : Addr} {vs : List Value} {kk : Nat} {m₀ : Str → Option Value} {news : List (Addr × Obj)} {Pv : Value → Prop} (J : (Str → Option Value) → List (Addr × Obj) → (Str → Option Value) → List (Addr × Obj) → Prop) (hkeep : ∀ m n, J m₀ news m n → (ax, listOf vs.toArray kk) ∈ n)
    (hh : A.handled = none) (hm : (ax, listOf vs.toArray kk) ∈ news) (hP : ∀ v ∈ vs, Pv v) (F : Fr h₀ env.locals s.heap m₀) (N : News h₀ env.locals s.heap news) (j0 : J m₀ news m₀ news)
    (turn : ∀ I, (∀ p ∈ news, p.1 < I) → ∀ v m₁ news₁ (it : Obj) h tk, it.cls = .type "list_iterator" → Pv v → J m₀ news m₁ news₁ → Fr h₀ env.locals h (fun y => if y = x then some v else m₁ y) → News h₀ env.locals h ((I, it) :: news₁) →
      wpAny (model prog w) A (execs body env) (UnrPost h₀ env.locals { s with heap := h, toks := tk } I it (J m₀ news) Q) E { s with heap := h, toks := tk })
    (done : ∀ m₁ news₁ h tk, J m₀ news m₁ news₁ → Fr h₀ env.locals h m₁ → News h₀ env.locals h news₁ → Q .next { s with heap := h, toks := tk }) :
    wpAny (model prog w) A (pyIter (.ref ax)) (fun it s₂ => LoopAtV prog w A h₀ env x body Q E it s₂) E s :=
  iter_listUnr (lo := listOf vs.toArray kk) (vs := vs) hh F N hm rfl rfl fun I l => list_restJ (J m₀ news) hkeep (turn I l) done vs m₀ news hP j0
end
set_option maxRecDepth 100000
set_option maxHeartbeats 4000000
theorem drop_two {l : List Int} {a : Nat} (h : a + 2 ≤ l.length) : (l.drop a).take 2 = [l.getD a 0, l.getD (a + 1) 0] := by
  have h1 : a < l.length := by omega
  have h2 : a + 1 < l.length := by omega
  rw [List.drop_eq_getElem_cons h1, List.drop_eq_getElem_cons h2]
  rw [List.getD_eq_getElem?_getD, List.getD_eq_getElem?_getD, List.getElem?_eq_getElem h1, List.getElem?_eq_getElem h2]
  rfl
section
variable {prog : Program} {w : World} {A : Around} {E : Value → Shared → Prop} {s : Shared} {h₀ : Heap} {L l : Addr} {m : Str → Option Value} {news : List (Addr × Obj)} {value slice : PySem.Expr} {vs : List Value} {ns : List Int} {x y : Int} {t1 t2 : Tok} {kk : Nat} {Q : Value → Shared → Prop}
theorem slice_pair (F : Fr h₀ L s.heap m) (N : News h₀ L s.heap news) (hm : (l, listOf vs.toArray kk) ∈ news) (hi : IntsAre vs ns) (hlen : ns.length = 256) (h0 : 0 ≤ x) (h1 : x ≤ 254) (hy : y = x + 2)
    (h : ∀ D u1 u2 h', Fr h₀ L h' m → News h₀ L h' ((D, listOf #[.int (ns.getD x.toNat 0) u1, .int (ns.getD (x.toNat + 1) 0) u2] 0) :: news) → (∀ p ∈ news, p.1 < D) → Q (.ref D) { s with heap := h' })
    (hs : subscripted slice false (.ref l) (.ref s.heap.objs.size) = operate [.ref s.heap.objs.size, .ref l] (getItem (.ref l) (.ref s.heap.objs.size))) (ht : ∀ r, letTemporaryGo value (.ref l) r = pure ()) :
    wpAny (model prog w) A (subscriptTail value slice (.ref l) (.ref s.heap.objs.size)) Q E { s with heap := s.heap.push { cls := .type "slice", data := .fields #[.int x t1, .int y t2, .none] } } := by
  have hl : s.heap.IsList l vs.toArray := News.isList N hm
  have run := kmk_run (vs := vs) (ns := ns) hi h0 (show 0 ≤ y by omega)
  have e : (ns.drop x.toNat).take (min y.toNat ns.length - x.toNat) = [ns.getD x.toNat 0, ns.getD (x.toNat + 1) 0] := by
    rw [show min y.toNat ns.length - x.toNat = 2 by omega]
    exact drop_two (by omega)
  rw [e] at run
  refine kmk_slice_ints (ms := [ns.getD x.toNat 0, ns.getD (x.toNat + 1) 0]) (c := 2) F N hl (IsPart.int _ _) (IsPart.int _ _) hi run rfl (fun D ws h' F' N' l1 hI' _ _ => ?_) hs ht (by rw [List.size_toArray, hi.length, hlen]; decide)
  cases hI' with
  | cons _ u1 r => cases r with
    | cons _ u2 r => cases r with
      | nil => exact h D u1 u2 h' F' N' l1
theorem item_lit {its : Array Value} {k : Int} {t : Tok} {v : Value} (N : News h₀ L s.heap news) (hm : (l, listOf its kk) ∈ news) (h0 : 0 ≤ k) (hx' : its.toList[k.toNat]? = some v) (hsz : its.size < 8) (h : Q v s)
    (hs : subscripted slice false (.ref l) (.int k t) = operate [.ref l, .int k t] (getItem (.ref l) (.int k t)) := by with_unfolding_all rfl) :
    wpAny (model prog w) A (subscriptTail value slice (.ref l) (.int k t)) Q E s := by
  have hl : s.heap.IsList l its := News.isList N hm
  have hx : its[k.toNat]? = some v := by rw [← hx', Array.getElem?_toList]
  have hk : k.toNat < its.size := by
    rcases Array.getElem?_eq_some_iff.mp hx with ⟨hk, _⟩
    exact hk
  exact tail_any hl.typeIs slot_list_getitem.lookup (wpAny_getItem_list hl h0 (by omega) hx h) hs
end
set_option maxRecDepth 100000
set_option maxHeartbeats 4000000
theorem fe (x : Int) : Int.fmod x 3329 = x % 3329 := Int.fmod_eq_emod_of_nonneg x (by decide)
theorem zeta_root : (List.range 128).all (fun p => if p % 2 = 0 then rootF (p : Int) == zetaL.getD (64 + p / 2) 0 else (rootF (p : Int) + zetaL.getD (64 + p / 2) 0) % 3329 == 0) = true := by
  rw [zetaL_eq]; decide +kernel
theorem zeta_even {i : Nat} (h : i < 64) : rootF ((2 * i : Nat) : Int) = zetaL.getD (64 + i) 0 := by
  have z := List.all_eq_true.mp zeta_root (2 * i) (List.mem_range.mpr (by omega))
  rw [if_pos (by omega), show 2 * i / 2 = i by omega] at z
  exact beq_iff_eq.mp z
theorem zeta_odd {i : Nat} (h : i < 64) : (rootF ((2 * i + 1 : Nat) : Int) + zetaL.getD (64 + i) 0) % 3329 = 0 := by
  have z := List.all_eq_true.mp zeta_root (2 * i + 1) (List.mem_range.mpr (by omega))
  rw [if_neg (by omega), show (2 * i + 1) / 2 = i by omega] at z
  exact beq_iff_eq.mp z
theorem quad_len (a b : List Int) (i : Int) : (quad a b i).length = 4 := rfl
theorem mulP_get (a b : List Int) : ∀ n i r, i < n → r < 4 → (mulP a b n).getD (4 * i + r) 0 = (quad a b (0 + (i : Int))).getD r 0
  | n + 1, i, r, hi, hr => by
    rw [mulP_succ, List.getD_eq_getElem?_getD, List.getD_eq_getElem?_getD]
    by_cases h : i < n
    · rw [List.getElem?_append_left (by rw [mulP_len]; omega)]
      have := mulP_get a b n i r h hr
      rw [List.getD_eq_getElem?_getD, List.getD_eq_getElem?_getD] at this
      exact this
    · obtain rfl : i = n := by omega
      rw [List.getElem?_append_right (by rw [mulP_len]; omega), mulP_len, show 4 * i + r - 4 * i = r by omega]
theorem addP_get (f g : List Int) {x : Nat} (h : x < 256) : (addP f g).getD x 0 = (f.getD x 0 + g.getD x 0) % 3329 := by
  rw [addP_eq, List.getD_eq_getElem?_getD, List.getElem?_map, List.getElem?_range h]
  exact fe _
theorem one_even {a c b d z r : Int} (h : (z - r) % 3329 = 0) : (a * c + z * b * d) % 3329 = (a * c + b * d * r) % 3329 := by
  obtain ⟨k, hk⟩ := Int.dvd_of_emod_eq_zero h
  have e : z = r + 3329 * k := by omega
  have e2 : a * c + z * b * d = (a * c + b * d * r) + 3329 * (k * b * d) := by
    rw [e, Int.add_mul, Int.add_mul, Int.mul_assoc r b d, Int.mul_comm r (b * d), Int.mul_assoc 3329 k b, Int.mul_assoc 3329 (k * b) d, Int.add_assoc]
  rw [e2, Int.add_mul_emod_self_left]
theorem two_sum {A B C D : Int} (h1 : A = C % 3329) (h2 : B = D % 3329) : (A + B) % 3329 = (C % 3329 + D) % 3329 := by
  rw [h1, h2]; omega
theorem ix (i : Nat) : (4 * (0 + (i : Int)) + 0).toNat = 4 * i ∧ (4 * (0 + (i : Int)) + 1).toNat = 4 * i + 1 ∧ (4 * (0 + (i : Int)) + 2).toNat = 4 * i + 2 ∧ (4 * (0 + (i : Int)) + 3).toNat = 4 * i + 3 ∧ (64 + (0 + (i : Int))).toNat = 64 + i := by omega
theorem quad_0 (a b : List Int) (i : Nat) : (quad a b (0 + (i : Int))).getD 0 0 = (a.getD (4 * i) 0 * b.getD (4 * i) 0 + zetaL.getD (64 + i) 0 * a.getD (4 * i + 1) 0 * b.getD (4 * i + 1) 0) % 3329 := by
  obtain ⟨h0, h1, h2, h3, h4⟩ := ix i
  unfold quad bm0
  rw [h0, h1, h4, ← fe]; rfl
theorem quad_1 (a b : List Int) (i : Nat) : (quad a b (0 + (i : Int))).getD 1 0 = (a.getD (4 * i + 1) 0 * b.getD (4 * i) 0 + a.getD (4 * i) 0 * b.getD (4 * i + 1) 0) % 3329 := by
  obtain ⟨h0, h1, h2, h3, h4⟩ := ix i
  unfold quad bm1
  rw [h0, h1, ← fe]; rfl
theorem quad_2 (a b : List Int) (i : Nat) : (quad a b (0 + (i : Int))).getD 2 0 = (a.getD (4 * i + 2) 0 * b.getD (4 * i + 2) 0 + -(zetaL.getD (64 + i) 0) * a.getD (4 * i + 3) 0 * b.getD (4 * i + 3) 0) % 3329 := by
  obtain ⟨h0, h1, h2, h3, h4⟩ := ix i
  unfold quad bm0
  rw [h2, h3, h4, ← fe]; rfl
theorem quad_3 (a b : List Int) (i : Nat) : (quad a b (0 + (i : Int))).getD 3 0 = (a.getD (4 * i + 3) 0 * b.getD (4 * i + 2) 0 + a.getD (4 * i + 2) 0 * b.getD (4 * i + 3) 0) % 3329 := by
  obtain ⟨h0, h1, h2, h3, h4⟩ := ix i
  unfold quad bm1
  rw [h2, h3, ← fe]; rfl
theorem halves {n : Nat} (h : n < 128) : (∃ i, n = 2 * i ∧ i < 64) ∨ (∃ i, n = 2 * i + 1 ∧ i < 64) := by
  rcases Nat.mod_two_eq_zero_or_one n with h2 | h2
  · exact .inl ⟨n / 2, by omega, by omega⟩
  · exact .inr ⟨n / 2, by omega, by omega⟩
theorem cross {a b c d : Int} : (b * c + a * d) % 3329 = (a * d + b * c) % 3329 := by rw [Int.add_comm]
/-- the pair's first: two products by X X less the power of 17 -/
theorem mul_first (a b : List Int) {n : Nat} (h : n < 128) : (mulP a b 64).getD (2 * n) 0 = (a.getD (2 * n) 0 * b.getD (2 * n) 0 + a.getD (2 * n + 1) 0 * b.getD (2 * n + 1) 0 * rootF (n : Int)) % 3329 := by
  rcases halves h with ⟨i, rfl, hi⟩ | ⟨i, rfl, hi⟩
  · have e := mulP_get a b 64 i 0 hi (by decide)
    rw [quad_0] at e
    rw [show 2 * (2 * i) = 4 * i + 0 by omega, e, zeta_even hi]
    exact one_even (by rw [Int.sub_self]; rfl)
  · have e := mulP_get a b 64 i 2 hi (by decide)
    rw [quad_2] at e
    rw [show 2 * (2 * i + 1) = 4 * i + 2 by omega, e]
    have z := zeta_odd hi
    exact one_even (by omega)
theorem mul_second (a b : List Int) {n : Nat} (h : n < 128) : (mulP a b 64).getD (2 * n + 1) 0 = (a.getD (2 * n) 0 * b.getD (2 * n + 1) 0 + a.getD (2 * n + 1) 0 * b.getD (2 * n) 0) % 3329 := by
  rcases halves h with ⟨i, rfl, hi⟩ | ⟨i, rfl, hi⟩
  · have e := mulP_get a b 64 i 1 hi (by decide)
    rw [quad_1] at e
    rw [show 2 * (2 * i) + 1 = 4 * i + 1 by omega, e, show 2 * (2 * i) = 4 * i by omega]
    exact cross
  · have e := mulP_get a b 64 i 3 hi (by decide)
    rw [quad_3] at e
    rw [show 2 * (2 * i + 1) + 1 = 4 * i + 3 by omega, e, show 2 * (2 * i + 1) = 4 * i + 2 by omega]
    exact cross
/-- what the law reckons at a place is what the dot has there -/
theorem told_first (f0 f1 g0 g1 : List Int) {p : Int} (h0 : 0 ≤ p) (h1 : p < 128) : (addP (mulP f0 g0 64) (mulP f1 g1 64)).getD (2 * p).toNat 0 =
    Int.fmod (Int.fmod (0 + f0.getD (2 * p).toNat 0 * g0.getD (2 * p).toNat 0 + f0.getD ((2 * p).toNat + 1) 0 * g0.getD ((2 * p).toNat + 1) 0 * rootF p) 3329 + f1.getD (2 * p).toNat 0 * g1.getD (2 * p).toNat 0 + f1.getD ((2 * p).toNat + 1) 0 * g1.getD ((2 * p).toNat + 1) 0 * rootF p) 3329 := by
  obtain ⟨n, rfl⟩ := Int.eq_ofNat_of_zero_le h0
  have hn : n < 128 := by omega
  rw [show (2 * (n : Int)).toNat = 2 * n by omega, addP_get _ _ (by omega), mul_first _ _ hn, mul_first _ _ hn, fe, fe, Int.zero_add, Int.add_assoc (_ % 3329)]
  exact two_sum rfl rfl
theorem told_second (f0 f1 g0 g1 : List Int) {p : Int} (h0 : 0 ≤ p) (h1 : p < 128) : (addP (mulP f0 g0 64) (mulP f1 g1 64)).getD ((2 * p).toNat + 1) 0 =
    Int.fmod (Int.fmod (0 + f0.getD (2 * p).toNat 0 * g0.getD ((2 * p).toNat + 1) 0 + f0.getD ((2 * p).toNat + 1) 0 * g0.getD (2 * p).toNat 0) 3329 + f1.getD (2 * p).toNat 0 * g1.getD ((2 * p).toNat + 1) 0 + f1.getD ((2 * p).toNat + 1) 0 * g1.getD (2 * p).toNat 0) 3329 := by
  obtain ⟨n, rfl⟩ := Int.eq_ofNat_of_zero_le h0
  have hn : n < 128 := by omega
  rw [show (2 * (n : Int)).toNat = 2 * n by omega, addP_get _ _ (by omega), mul_second _ _ hn, mul_second _ _ hn, fe, fe, Int.zero_add, Int.add_assoc (_ % 3329)]
  exact two_sum rfl rfl
theorem root_table : (List.range 128).all (fun p => decide (0 ≤ rootF (p : Int)) && decide (rootF (p : Int) < 3329)) = true := by decide +kernel
theorem root_small {p : Int} (h0 : 0 ≤ p) (h1 : p < 128) : 0 ≤ rootF p ∧ rootF p < 3329 := by
  obtain ⟨n, rfl⟩ := Int.eq_ofNat_of_zero_le h0
  have z := List.all_eq_true.mp root_table n (List.mem_range.mpr (by omega))
  rw [Bool.and_eq_true, decide_eq_true_eq, decide_eq_true_eq] at z
  exact z
theorem root_ok {x p : Int} (h0 : 0 ≤ p) (h1 : p < 128) : IntMulOk x (rootF p) :=
  Small.right (c := [rootF p]) (small_of fun y hy => by rw [List.mem_singleton.mp hy]; exact root_small h0 h1) x 0
theorem row_ok {c : List Int} (r : Row256 c) (x : Int) (k : Nat) : IntMulOk x (c.getD k 0) := Small.right (small_of r.2) x k
set_option maxRecDepth 100000
set_option maxHeartbeats 4000000
/-- the law's end: True, all old kept but the tables, the generators bare -/
def LawEnd (s₁ : Shared) (tabs : List (Addr × Addr)) (r : Result) (s' : Shared) : Prop :=
  r = .ok (.ret (.bool true)) ∧ (∀ b o, (ghostOf s₁.heap tabs).get? b = some o → s'.heap.get? b = some o) ∧ s'.os = s₁.os ∧ AllBare s'.gens ∧ GrownAll tabs s'.heap
theorem kn_postG {M : Model} {A : Around} {cd : Code} {s s₁ : Shared} {cw : ClaimW} {cl : Str → Option Addr} {mean : ExcName → Option Value} {args : List WData} {tabs : List (Addr × Addr)} (hT : TabsAt tabs s₁.heap) (hr : ∀ x, cw.raises args x = false) (hp : cw.post args (.bool true) args = true)
    (h : codeAny M A cd (LawEnd s₁ tabs) s) : codeAny M A cd (GoodWG cw cl mean args s₁) s :=
  codeAny_mono h fun r s' ⟨hr1, hk, hos, hg, hgr⟩ => by
    have keep : ∀ b o, b ∉ tabs.map (·.2) → s₁.heap.get? b = some o → s'.heap.get? b = some o := fun b o hb e => hk b o (ghost_ne e hb)
    have grown : ∀ b o, b ∈ tabs.map (·.2) → s₁.heap.get? b = some o → isCodeTable s₁.heap b ∧ o = tabObj #[] ∧ ∃ ps, s'.heap.get? b = some (tabObj ps) := fun b o hb e => by
      obtain ⟨q, hq, rfl⟩ := List.mem_map.mp hb
      have e2 := (hT q hq).2
      rw [e] at e2
      exact ⟨((hT q hq).1.tab (hT q hq).2).isCodeTable, Option.some.inj e2, hgr.get q hq⟩
    refine ⟨.inl ⟨.bool true, .bool true, [], hr1, hr, .bool _, hp, fun _ => ⟨List.nodup_nil, fun a ha => nomatch ha⟩⟩, ⟨fun b o e => ?_, fun b o e => ?_⟩, hos, hg⟩
    · by_cases hb : b ∈ tabs.map (·.2)
      · obtain ⟨ht, rfl, ps, hP⟩ := grown b o hb e
        exact .inr (.inl ⟨ht, rfl, #[], ps, rfl, by rw [Array.empty_append]; exact hP⟩)
      · exact .inl (keep b o hb e)
    · by_cases hb : b ∈ tabs.map (·.2)
      · obtain ⟨_, _, ps, hP⟩ := grown b o hb e
        exact ⟨_, hP⟩
      · exact ⟨o, keep b o hb e⟩
set_option maxRecDepth 100000
set_option maxHeartbeats 4000000
/-- no iterator of a range -/
def NoR (o : Obj) : Prop := ∀ x y, o ≠ itR x y
theorem NoR.of_cls {o : Obj} (h : o.cls ≠ .type "range_iterator") : NoR o := fun x y e => h (by rw [e]; rfl)
theorem NoR.of_cell {o : Obj} {v : Option Value} (h : o.data = .cell v) : NoR o := fun x y e => by
  rw [e] at h; cases h
/-- a ledger less one iterator -/
def DropI (I : Addr) (it : Obj) (all news' : List (Addr × Obj)) : Prop := (I, it) ∈ all ∧ (∀ p ∈ news', p ∈ all) ∧ ∀ p ∈ news', p.2 ≠ it
theorem DropI.here {I : Addr} {x y : Int} {l : List (Addr × Obj)} (h : ∀ p ∈ l, NoR p.2) : DropI I (itR x y) ((I, itR x y) :: l) l := ⟨.head _, fun _ hp => .tail _ hp, fun p hp => h p hp _ _⟩
theorem DropI.there {I : Addr} {x y : Int} {q : Addr × Obj} {l l' : List (Addr × Obj)} (h : NoR q.2) (d : DropI I (itR x y) l l') : DropI I (itR x y) (q :: l) (q :: l') :=
  ⟨.tail _ d.1, fun p hp => (List.mem_cons.mp hp).elim (fun e => e ▸ .head _) (fun hp => .tail _ (d.2.1 p hp)), List.forall_mem_cons.mpr ⟨h _ _, d.2.2⟩⟩
theorem UnrEnd.drop {h₀ : Heap} {L I : Addr} {it : Obj} {rest : (Str → Option Value) → List (Addr × Obj) → Prop} {s₁ : Shared} {h' : Heap} {tk : Nat} {m' : Str → Option Value} {all news' : List (Addr × Obj)} (F : Fr h₀ L h' m') (N : News h₀ L h' all)
    (d : DropI I it all news') (r : rest m' news') : UnrEnd h₀ L s₁ I it rest { s₁ with heap := h', toks := tk } :=
  UnrEnd.intro F N news' (fun p hp => (List.mem_cons.mp hp).elim (fun e => e ▸ d.1) (d.2.1 p)) (fun p hp e => by
    have h1 := (N _ (d.2.1 p hp)).1
    have h2 := (N _ d.1).1
    rw [e] at h1
    exact d.2.2 p hp (Option.some.inj (h1.symm.trans h2))) r
theorem cls_ne {o : Obj} {c d : Value} (h : o.cls = c) (n : c ≠ d) : o.cls ≠ d := fun e => n (h.symm.trans e)
set_option maxRecDepth 100000
set_option maxHeartbeats 4000000
section
variable {prog : Program} {w : World} {A : Around} {E : Value → Shared → Prop} {s : Shared} {h₀ : Heap} {L a b : Addr} {m : Str → Option Value} {news : List (Addr × Obj)} {Q : Value → Shared → Prop}
theorem ne_pair {x1 y1 x2 y2 : Int} {t1 t2 t3 t4 : Tok} {k1 k2 : Nat} (N : News h₀ L s.heap news) (m1 : (a, listOf #[.int x1 t1, .int y1 t2] k1) ∈ news) (m2 : (b, listOf #[.int x2 t3, .int y2 t4] k2) ∈ news)
    (ex : x1 = x2) (ey : y1 = y2) (hu : A.units + 64 < cLine) (h : Q (.bool false) s) : wpAny (model prog w) A (compareOp .NotEq (.ref a) (.ref b)) Q E s := by
  subst ex; subst ey
  refine ne_intsK (vs := [.int x1 t1, .int y1 t2]) (us := [.int x1 t3, .int y1 t4]) (ns := [x1, y1]) (ms := [x1, y1]) (News.isList N m1) (.cons _ _ (.cons _ _ .nil)) (News.isList N m2) (.cons _ _ (.cons _ _ .nil)) hu ?_
  rw [show decide ([x1, y1] = [x1, y1]) = true from decide_eq_true rfl]
  exact h
theorem eq_same {xs ys : List Value} {ns : List Int} {k1 k2 : Nat} (N : News h₀ L s.heap news) (m1 : (a, listOf xs.toArray k1) ∈ news) (m2 : (b, listOf ys.toArray k2) ∈ news)
    (hi : IntsAre xs ns) (hj : IntsAre ys ns) (hu : A.units + 64 < cLine) (h : Q (.bool true) s) : wpAny (model prog w) A (compareOp .Eq (.ref a) (.ref b)) Q E s := by
  refine eq_intsK (News.isList N m1) hi (News.isList N m2) hj hu ?_
  rw [show decide (ns = ns) = true from decide_eq_true rfl]
  exact h
end
set_option maxRecDepth 100000
set_option maxHeartbeats 4000000
section
variable {prog : Program} {w : World} {A : Around} {E : Value → Shared → Prop} {s : Shared} {env : Env} {h₀ : Heap} {x : Str} {body : List Stmt} {Q : Flow → Shared → Prop}
theorem list_inv2 {ax : Addr} {vs : List Value} {kk : Nat} {m₀ : Str → Option Value} {news : List (Addr × Obj)} {Pv : Value → Prop} (J : (Str → Option Value) → List (Addr × Obj) → (Str → Option Value) → List (Addr × Obj) → Prop) (hkeep : ∀ m n, J m₀ news m n → (ax, listOf vs.toArray kk) ∈ n)
    (hh : A.handled = none) (hm : (ax, listOf vs.toArray kk) ∈ news) (hP : ∀ v ∈ vs, Pv v) (F : Fr h₀ env.locals s.heap m₀) (N : News h₀ env.locals s.heap news) (j0 : J m₀ news m₀ news)
    (turn : ∀ I, (∀ p ∈ news, p.1 < I) → ∀ v m₁ news₁ (it : Obj) (s₁ : Shared) (Q' : Flow → Shared → Prop), it.cls = .type "list_iterator" → Pv v → J m₀ news m₁ news₁ → Fr h₀ env.locals s₁.heap (fun y => if y = x then some v else m₁ y) → News h₀ env.locals s₁.heap ((I, it) :: news₁) →
      wpAny (model prog w) A (execs body env) (UnrPost h₀ env.locals s₁ I it (J m₀ news) Q') E s₁)
    (done : ∀ m₁ news₁ h tk, J m₀ news m₁ news₁ → Fr h₀ env.locals h m₁ → News h₀ env.locals h news₁ → Q .next { s with heap := h, toks := tk }) :
    wpAny (model prog w) A (pyIter (.ref ax)) (fun it s₂ => LoopAtV prog w A h₀ env x body Q E it s₂) E s :=
  list_inv J hkeep hh hm hP F N j0 (fun I lI v m₁ news₁ it h tk hc hp j F N => turn I lI v m₁ news₁ it { s with heap := h, toks := tk } Q hc hp j F N) done
theorem map_two {m : Str → Option Value} {a b : Str} {u v : Value} (ha : m a = some u) (hb : m b = some v) : m = fun y => if y = a then some u else if y = b then some v else m y := by
  funext y
  by_cases q : y = a
  · rw [if_pos q, q, ha]
  · rw [if_neg q]
    by_cases q2 : y = b
    · rw [if_pos q2, q2, hb]
    · rw [if_neg q2]
theorem map_three {m : Str → Option Value} {a b c : Str} {u v x : Value} (ha : m a = some u) (hb : m b = some v) (hc : m c = some x) : m = fun y => if y = a then some u else if y = b then some v else if y = c then some x else m y := by
  funext y
  by_cases q : y = a
  · rw [if_pos q, q, ha]
  · rw [if_neg q]
    exact congrFun (map_two hb hc) y
end
set_option maxRecDepth 100000
set_option maxHeartbeats 4000000
/-- no table of a code object -/
def NoT (o : Obj) : Prop := ∀ ps, o ≠ tabObj ps
theorem NoT.of_cls {o : Obj} (h : o.cls ≠ .none) : NoT o := fun x e => h (by rw [e]; first | rfl | skip)
theorem NoT.of_cell {o : Obj} {v : Option Value} (h : o.data = .cell v) : NoT o := fun x e => by
  rw [e] at h; exact nomatch h
theorem gn_tab {h₀ h : Heap} {L a : Addr} {led : List (Addr × Obj)} {ps : Array Value} (n : Nat) (N : News h₀ L h led) (hm : (a, tabObj ps) ∈ led) (hn : ∀ p ∈ led.take n, NoT p.2) : GnNe a (led.take n) :=
  gnNe_of fun p hp e => by
    have h1 := (N p (List.mem_of_mem_take hp)).1
    have h2 := (N _ hm).1
    rw [e] at h1
    exact hn p hp ps (Option.some.inj (h1.symm.trans h2))
set_option maxRecDepth 100000
theorem sub_mid {pI pC pD : Addr × Obj} {all n : List (Addr × Obj)} (k : Nat) (hI : nth all k = some pI) (hC : nth all (k + 1) = some pC) (hD : nth all (k + 2) = some pD) (h : n = all.take k ++ all.drop (k + 3)) : ∀ p ∈ pI :: pC :: pD :: n, p ∈ all := by
  intro p hp
  rcases List.mem_cons.mp hp with rfl | hp
  · exact memIx _ hI
  rcases List.mem_cons.mp hp with rfl | hp
  · exact memIx _ hC
  rcases List.mem_cons.mp hp with rfl | hp
  · exact memIx _ hD
  rw [h] at hp
  rcases List.mem_append.mp hp with hp | hp
  · exact List.mem_of_mem_take hp
  · exact List.mem_of_mem_drop hp
theorem off3_of {I C D : Addr} : ∀ {l : List (Addr × Obj)}, GnNe I l → GnNe C l → GnNe D l → LCg.Off3 I C D l
  | [], _, _, _ => True.intro
  | _ :: _, a, b, c => ⟨⟨a.1, b.1, c.1⟩, off3_of a.2 b.2 c.2⟩
theorem gm_drop0 {d : Addr} {l : List (Addr × Obj)} (h : GnNe d l) : GnNe d l := h
theorem gm_drop1 {d : Addr} {a : Addr × Obj} {l : List (Addr × Obj)} (h : GnNe d (a :: l)) : GnNe d l := h.2
theorem gm_drop2 {d : Addr} {a b : Addr × Obj} {l : List (Addr × Obj)} (h : GnNe d (a :: b :: l)) : GnNe d l := h.2.2
theorem gm_hyp {d : Addr} {l n : List (Addr × Obj)} (g : GnNe d l) (w : GnNe d l → GnNe d n) : GnNe d n := w g
theorem gm_map2 {x : Addr} {l l' : List (Addr × Obj)} (g : GnNe x l) (e : l.map (·.1) = l'.map (·.1)) : GnNe x l' := gm_map e g
theorem top_law : True := by
  w_top off
  trivial
set_option maxRecDepth 100000
set_option maxHeartbeats 100000000
set_option rowWalk.seconds 0
local macro_rules | `(tactic| lcg_sub) => `(tactic| first | exact sub_mid 0 rfl rfl rfl rfl | exact sub_mid 1 rfl rfl rfl rfl | exact sub_mid 2 rfl rfl rfl rfl | exact sub_mid 3 rfl rfl rfl rfl | exact sub_mid 4 rfl rfl rfl rfl | exact sub_mid 5 rfl rfl rfl rfl | exact sub_mid 6 rfl rfl rfl rfl | exact sub_mid 7 rfl rfl rfl rfl | exact sub_mid 8 rfl rfl rfl rfl | exact sub_mid 9 rfl rfl rfl rfl | fail)
local macro_rules | `(tactic| lcg_off) => `(tactic| first | k_dflt (exact off3_of (by (refine' gm_hyp ?g ?w; (case g => exact gm_drop2 (by with_reducible assumption)); (case w => intro hg9; repeat (first | exact gm_map2 hg9 rfl | refine And.intro (by k_ne) ?_)))) (by (refine' gm_hyp ?g ?w; (case g => exact gm_drop1 (by with_reducible assumption)); (case w => intro hg9; repeat (first | exact gm_map2 hg9 rfl | refine And.intro (by k_ne) ?_)))) (by (refine' gm_hyp ?g ?w; (case g => exact gm_drop0 (by with_reducible assumption)); (case w => intro hg9; repeat (first | exact gm_map2 hg9 rfl | refine And.intro (by k_ne) ?_))))) | fail)
local macro_rules | `(tactic| walk_at "CompSrc") => `(tactic| (k_here; k_dflt (first | (refine LCg.CompSrc.ledger (by rfl) (by k_asm) (by k_asm) (by k_mem) (by first | size_fits | exact Nat.le_of_ble_eq_true rfl) ?_; intro g'; lcg_lit) | (refine LCg.CompSrc.range (by rfl) (by k_asm) (by k_asm) (by assumption) (by first | decide | rfl) (by first | rfl | decide) (by first | size_fits | exact Nat.le_of_ble_eq_true rfl) ?_; intro g'; lcg_lit))))
local macro_rules | `(tactic| walk_at "CompRest") => `(tactic| (with_unfolding_all first | (refine LCg.CompRest.succ ?_; intro v' I' oI' C' oC' D' m' h' tk' E' hv' hC' hx' F' N' off' ne'; (first | lcg_open hv' | (obtain ⟨t9', hv9'⟩ := hv'; subst hv9')); (have og' := off3_gn off' ne'); (obtain ⟨og1', og2', og3'⟩ := og'); clear off' ne') | refine LCg.CompRest.zero ?_))
local macro_rules | `(tactic| walk_at "FinA") => `(tactic| ((unfold LCg.FinA); intro D' h' tk' F' N' o1'; (have og' := off1_gn o1'); clear o1'; (try simp only [List.nil_append, List.cons_append] at N'); (try dsimp only)))
local macro_rules | `(tactic| k_in) => `(tactic| first | with_reducible assumption | exact Frag.In.keeps (by k_asm) (Fr.keep (by k_asm)))
local macro_rules | `(tactic| mul_fits) => `(tactic| first | exact row_ok (by assumption) _ _ | exact root_ok (by assumption) (by assumption))
local macro_rules | `(tactic| walk_at "UnrEnd") => `(tactic| (k_dflt (refine' UnrEnd.drop ?F ?N ?d ?_; (case F => k_asm); (case N => k_asm); (case d => exact DropI.there (by exact NoR.of_cls (by k_cls)) (DropI.there (by exact NoR.of_cls (by k_cls)) (DropI.there (by exact NoR.of_cls (by k_cls)) (DropI.here (by (repeat (first | assumption | refine List.forall_mem_cons.mpr ⟨by first | assumption | exact NoR.of_cls (by k_cls), ?_⟩))))))))))
def PlaceJ (m₀ : Str → Option Value) (news : List (Addr × Obj)) (m₁ : Str → Option Value) (news₁ : List (Addr × Obj)) : Prop :=
  MapBut [Str.ofString "place", Str.ofString "due", Str.ofString "k", Str.ofString "a", Str.ofString "b", Str.ofString "c", Str.ofString "d"] m₀ m₁ ∧ news₁ = news
theorem mem_eq {l l' : List (Addr × Obj)} (h : l' = l) : ∀ p ∈ l, p ∈ l' := fun p hp => by rw [h]; exact hp
theorem placeJ_of {m₀ m₁ : Str → Option Value} {news news₁ : List (Addr × Obj)} (hm : MapBut [Str.ofString "place", Str.ofString "due", Str.ofString "k", Str.ofString "a", Str.ofString "b", Str.ofString "c", Str.ofString "d"] m₀ m₁) (hs : news₁ = news) :
    ∀ m', MapBut [Str.ofString "place", Str.ofString "due", Str.ofString "k", Str.ofString "a", Str.ofString "b", Str.ofString "c", Str.ofString "d"] m₁ m' → PlaceJ m₀ news m' news₁ := fun m' h => ⟨fun y hy => (h y hy).trans (hm y hy), hs⟩
local macro_rules | `(tactic| o_head ($_f $_K $as $e)) => `(tactic| o_head (kmHook hdK.heap_1_39 $as $e [362, 320]))
/- the head's program looks for these names: where one stands it lays no copy of the thing, and the compiled file stays small -/
theorem law_holds.tw4503035019201841076 : True := trivial
theorem law_holds.tw12275847060699157868 : True := trivial
theorem law_holds.tw10983241140555628109 : True := trivial
theorem law_holds.tw11576900812866516365 : True := trivial
theorem law_holds.tw12800644894191811977 : True := trivial
theorem law_holds.tw14521376392698553312 : True := trivial
theorem law_holds.tw1414043511812021011 : True := trivial
theorem law_holds.tw14160533322030094474 : True := trivial
theorem law_holds.tw447027507633508388 : True := trivial
theorem law_holds.tw18340598423539479173 : True := trivial
theorem law_holds.tw8720880381367431298 : True := trivial
theorem law_holds.tw10458381655096516384 : True := trivial
theorem law_holds.tw6860709855171689206 : True := trivial
theorem law_holds.tw9168033884955339765 : True := trivial
theorem law_holds.tw11954108379963292957 : True := trivial
theorem law_holds.tw9288214680346807717 : True := trivial
theorem law_holds.tw16641252976520058099 : True := trivial
theorem law_holds.tw863230966790177721 : True := trivial
theorem law_holds.tw10028117763298573888 : True := trivial
theorem law_holds.tw16057390660189216267 : True := trivial
theorem law_holds.tw3672438013989251361 : True := trivial
theorem law_holds.tw12847567107135931479 : True := trivial
theorem law_holds.tw2695550118857162214 : True := trivial
theorem law_holds.tw503957847093417577 : True := trivial
theorem law_holds.tw16805829885119392726 : True := trivial
theorem law_holds.tw4992725456586698614 : True := trivial
theorem law_holds.tw8514742172934523775 : True := trivial
theorem law_holds.tw2557128651999224082 : True := trivial
theorem law_holds.tw7696488724909661519 : True := trivial
theorem law_holds.tw18165013545707147870 : True := trivial
theorem law_holds.tw841179935631392477 : True := trivial
theorem law_holds.tw6168114395901332020 : True := trivial
theorem law_holds.tw11097350217990362986 : True := trivial
theorem law_holds.tw3307954989432871184 : True := trivial
theorem law_holds.tw5044595872519035376 : True := trivial
theorem law_holds.tw1096898596823417342 : True := trivial
theorem law_holds.tw2887050238494874643 : True := trivial
theorem law_holds.tw13482675847692870326 : True := trivial
theorem law_holds.tw18088736630749135056 : True := trivial
theorem law_holds.tw1784627337472249616 : True := trivial
theorem law_holds.tw7087491825025586495 : True := trivial
theorem law_holds.tw9403268196540146800 : True := trivial
theorem law_holds.tw10007947361888340627 : True := trivial
theorem law_holds.tw14872900085578418628 : True := trivial
theorem law_holds.tw14497384708736915567 : True := trivial
theorem law_holds.tw3756308257209627903 : True := trivial
theorem law_holds.tw12253411696296436870 : True := trivial
theorem law_holds.tw6580623548314892615 : True := trivial
theorem law_holds.tw18261290160731607033 : True := trivial
theorem law_holds.tw2907507879108658156 : True := trivial
theorem law_holds.tw17580165497215679439 : True := trivial
theorem law_holds.tw12134408205421670959 : True := trivial
theorem law_holds.tw7408472829698581751 : True := trivial
theorem law_holds.tw3882250662718909693 : True := trivial
theorem law_holds.tw7495221243884187115 : True := trivial
theorem law_holds.tw8890443458166856008 : True := trivial
theorem law_holds.tw4524032621918665186 : True := trivial
theorem law_holds.tw12459966957829302596 : True := trivial
theorem law_holds.tw8984152853971343422 : True := trivial
theorem law_holds.tw5045712524691215523 : True := trivial
theorem law_holds.tw17993387198741990920 : True := trivial
theorem law_holds.tw17449644191371220912 : True := trivial
theorem law_holds.tw1046446015878126456 : True := trivial
theorem law_holds.tw2090888555730037645 : True := trivial
theorem law_holds.tw13454136545276886934 : True := trivial
theorem law_holds.tw12889056044993165476 : True := trivial
theorem law_holds.tw9889521400790421688 : True := trivial
theorem law_holds.tw9525127294725463027 : True := trivial
theorem law_holds.tw10301956948240465243 : True := trivial
theorem law_holds.tw18309190362041527269 : True := trivial
theorem law_holds.tw10786798759134214714 : True := trivial
theorem law_holds.tw11133525997344109421 : True := trivial
theorem law_holds.tw7116731048869669803 : True := trivial
theorem law_holds.tw6265907326580845545 : True := trivial
theorem law_holds.tw7510824731391710808 : True := trivial
theorem law_holds.tw3769339739266743318 : True := trivial
theorem law_holds.tw7769649832755249146 : True := trivial
theorem law_holds.tw7123599913665508030 : True := trivial
theorem law_holds.tw2414074194907454277 : True := trivial
theorem law_holds.tw5506821171919863439 : True := trivial
theorem law_holds.tw13397297893571687751 : True := trivial
theorem law_holds.tw228058311090241170 : True := trivial
theorem law_holds.tw6345391036791879355 : True := trivial
theorem law_holds.tw13800329570527188203 : True := trivial
theorem law_holds.tw6667284449218939238 : True := trivial
theorem law_holds.tw17713402740875732926 : True := trivial
theorem law_holds.tw2008241840959921210 : True := trivial
theorem law_holds.tw11484002064277903863 : True := trivial
theorem law_holds.tw7695934317539461687 : True := trivial
theorem law_holds.tw15789929832340015234 : True := trivial
theorem law_holds.tw14774650325386425613 : True := trivial
theorem law_holds.tw1670043908289496885 : True := trivial
theorem law_holds.tw2269544990204364226 : True := trivial
theorem law_holds.tw179590077315354965 : True := trivial
theorem law_holds.tw11303081109005220762 : True := trivial
theorem law_holds.tw4990719417378318711 : True := trivial
theorem law_holds.tw9758047768218912823 : True := trivial
theorem law_holds.tw6896717019858035522 : True := trivial
theorem law_holds.tw18135211599370774712 : True := trivial
theorem law_holds.tw15472126771306010800 : True := trivial
theorem law_holds.tw15623931887893595886 : True := trivial
theorem law_holds.tw16771549258648962210 : True := trivial
theorem law_holds.tw12411438589965969376 : True := trivial
theorem law_holds.tw12957172226269068610 : True := trivial
theorem law_holds.tw13429453918920967058 : True := trivial
theorem law_holds.tw15609566024721092083 : True := trivial
theorem law_holds.tw3850334171643177529 : True := trivial
theorem law_holds.tw9606376775287448836 : True := trivial
theorem law_holds.tw4732870924240089405 : True := trivial
theorem law_holds.tw1496123403401453975 : True := trivial
theorem law_holds.tw3186734533307500241 : True := trivial
theorem law_holds.tw15848713872586308078 : True := trivial
theorem law_holds.tw12116493165278983582 : True := trivial
theorem law_holds.tw9945564307700969627 : True := trivial
theorem law_holds.tw2602977815382960713 : True := trivial
theorem law_holds.tw14326059299131336239 : True := trivial
theorem law_holds.tw2580079619333081803 : True := trivial
theorem law_holds.tw1701620452695913853 : True := trivial
theorem law_holds.tw5920216800500632969 : True := trivial
theorem law_holds.tw808278469055374699 : True := trivial
theorem law_holds.tw16461882675039125421 : True := trivial
theorem law_holds.tw15338837502394608122 : True := trivial
theorem law_holds.tw8860054118572591635 : True := trivial
theorem law_holds.tw4360515638614775343 : True := trivial
theorem law_holds.tw6347680836309536272 : True := trivial
theorem law_holds.tw907578622648922086 : True := trivial
theorem law_holds.tw15732109348078318572 : True := trivial
theorem law_holds.tw12218498018843733332 : True := trivial
theorem law_holds.tw11690447701083486646 : True := trivial
theorem law_holds.tw15081652653247469957 : True := trivial
theorem law_holds.tw3602377517896009648 : True := trivial
theorem law_holds.tw13667737974841707781 : True := trivial
theorem law_holds.tw16760957895259694429 : True := trivial
theorem law_holds.tw15661869461025623997 : True := trivial
theorem law_holds.tw15333956030411951890 : True := trivial
theorem law_holds.tw15726739188670627701 : True := trivial
theorem law_holds.tw18340385619391811705 : True := trivial
theorem law_holds.tw2152083551845799040 : True := trivial
theorem law_holds.tw18090433342136740992 : True := trivial
theorem law_holds.tw13983371404066579822 : True := trivial
theorem law_holds.tw3776956092104397036 : True := trivial
theorem law_holds.tw7556614973213307419 : True := trivial
theorem law_holds.tw2384963693675321470 : True := trivial
theorem law_holds.tw15150646450996357022 : True := trivial
theorem law_holds.tw4581845663705801772 : True := trivial
theorem law_holds.tw9423440377400516374 : True := trivial
theorem law_holds.tw6111484700653504198 : True := trivial
theorem law_holds.tw11426015686315989412 : True := trivial
theorem law_holds.tw6257672830779976534 : True := trivial
theorem law_holds.tw6499956759230125245 : True := trivial
theorem law_holds.tw5981114437932730796 : True := trivial
theorem law_holds.tw13388431603621797793 : True := trivial
theorem law_holds.tw11100686419730198450 : True := trivial
theorem law_holds.tw2078624436916829710 : True := trivial
theorem law_holds.tw218528332313867021 : True := trivial
theorem law_holds.tw10516828495840041881 : True := trivial
theorem law_holds.tw15154110283740273250 : True := trivial
theorem law_holds.tw3682559726232862161 : True := trivial
theorem law_holds.tw17923851452625207687 : True := trivial
theorem law_holds.tw2470889107711209942 : True := trivial
theorem law_holds.tw14822640431511872941 : True := trivial
theorem law_holds.tw14925382992726071281 : True := trivial
theorem law_holds.tw18051328159682125866 : True := trivial
theorem law_holds.tw4211113817173803656 : True := trivial
theorem law_holds.tw3438298445031660282 : True := trivial
theorem law_holds.tw17635003217326761883 : True := trivial
theorem law_holds.tw17305254018735503138 : True := trivial
theorem law_holds.tw1905533677188600702 : True := trivial
theorem law_holds.tw8373494401650393898 : True := trivial
theorem law_holds.tw10929289806422889615 : True := trivial
theorem law_holds.tw9432226000188453795 : True := trivial
theorem law_holds.tw1713144814433471595 : True := trivial
theorem law_holds.tw59864651932915081 : True := trivial
theorem law_holds.tw415365407113419659 : True := trivial
theorem law_holds.tw4329158554759489670 : True := trivial
theorem law_holds.tw41732636909640268 : True := trivial
theorem law_holds.tw1762888911704233025 : True := trivial
theorem law_holds.tw11067727234611919522 : True := trivial
theorem law_holds.tw7703727192748681421 : True := trivial
theorem law_holds.tw16470317323979864763 : True := trivial
theorem law_holds.tw6751701741844952029 : True := trivial
theorem law_holds.tw2618386414584295968 : True := trivial
theorem law_holds.tw11017292853192552079 : True := trivial
theorem law_holds.tw8685087848568736164 : True := trivial
theorem law_holds.tw8249079356659094474 : True := trivial
theorem law_holds.tw13068417504975948891 : True := trivial
theorem law_holds.tw9849722394096787677 : True := trivial
theorem law_holds.tw12296726922439171297 : True := trivial
theorem law_holds.tw4889031023730116350 : True := trivial
theorem law_holds.tw13766487248619392586 : True := trivial
theorem law_holds.tw14064573792008682920 : True := trivial
theorem law_holds.tw8982592368679156308 : True := trivial
theorem law_holds.tw1567021292681222707 : True := trivial
theorem law_holds.tw10767655046202684341 : True := trivial
theorem law_holds.tw17253691774821329096 : True := trivial
theorem law_holds.tw5432952435368640112 : True := trivial
theorem law_holds.tw9548147230944474901 : True := trivial
theorem law_holds.tw13840902789983287329 : True := trivial
theorem law_holds.tw8857742495270377987 : True := trivial
theorem law_holds.tw1928719863018725356 : True := trivial
theorem law_holds.tw8570087061310353148 : True := trivial
theorem law_holds.tw6159533029260741167 : True := trivial
theorem law_holds.tw1303389685018741030 : True := trivial
theorem law_holds.tw10666784280354678857 : True := trivial
theorem law_holds.tw1053317679998426468 : True := trivial
theorem law_holds.tw9187647767651647856 : True := trivial
theorem law_holds.tw2006301483956418059 : True := trivial
theorem law_holds.tw15741379261994504178 : True := trivial
theorem law_holds.tw4643041051132140158 : True := trivial
theorem law_holds.tw15695062497276918967 : True := trivial
theorem law_holds.tw2075624079617657780 : True := trivial
theorem law_holds.tw3850375180904979519 : True := trivial
theorem law_holds.tw12149405283708829123 : True := trivial
theorem law_holds.tw18153520721480276881 : True := trivial
theorem law_holds.tw8572072892066365893 : True := trivial
theorem law_holds.tw9875236377963488844 : True := trivial
theorem law_holds.tw3494445600050047599 : True := trivial
theorem law_holds.tw7221428835167493151 : True := trivial
theorem law_holds.tw10371022188087798493 : True := trivial
theorem law_holds.tw5455921660152230842 : True := trivial
theorem law_holds.tw18221580467831097590 : True := trivial
theorem law_holds.tw12850535167719870617 : True := trivial
theorem law_holds.tw8035577848987061507 : True := trivial
theorem law_holds.tw10667895100797718341 : True := trivial
theorem law_holds.tw10958410103948607464 : True := trivial
theorem law_holds.tw7479968899032947501 : True := trivial
theorem law_holds.tw14789792462180790578 : True := trivial
theorem law_holds.tw17942499455142895165 : True := trivial
theorem law_holds.tw13902218012105463410 : True := trivial
theorem law_holds.tw13092103797297032270 : True := trivial
theorem law_holds.tw13055523775352357715 : True := trivial
theorem law_holds.tw17364227736987735495 : True := trivial
theorem law_holds.tw5117662029339320154 : True := trivial
theorem law_holds.tw11586273756423631628 : True := trivial
theorem law_holds.tw9779807473162285230 : True := trivial
theorem law_holds.tw2788888992717563140 : True := trivial
theorem law_holds.tw4441770287765753910 : True := trivial
theorem law_holds.tw7775064044895347852 : True := trivial
theorem law_holds.tw12456547296908542839 : True := trivial
theorem law_holds.tw8856317710758748564 : True := trivial
theorem law_holds.tw13182730311906835528 : True := trivial
theorem law_holds.tw3487968232213910406 : True := trivial
theorem law_holds.tw13220211186989608806 : True := trivial
theorem law_holds.tw17046799393618780204 : True := trivial
theorem law_holds.tw17884844454425935293 : True := trivial
theorem law_holds.tw784011647948385275 : True := trivial
theorem law_holds.tw17348551593414719351 : True := trivial
theorem law_holds.tw12684681026606017882 : True := trivial
theorem law_holds.tw3416923247095428876 : True := trivial
theorem law_holds.tw6260460797876433568 : True := trivial
theorem law_holds.tw602461330855297101 : True := trivial
theorem law_holds.tw16106779387088534511 : True := trivial
theorem law_holds.tw17566352759061798047 : True := trivial
theorem law_holds.tw14351635765420936899 : True := trivial
theorem law_holds.tw10803361673654935901 : True := trivial
theorem law_holds.tw4037582482628031876 : True := trivial
theorem law_holds.tw3692103080737180250 : True := trivial
theorem law_holds.tw15274831704391544125 : True := trivial
theorem law_holds.tw3196237028118051783 : True := trivial
theorem law_holds.tw7120836010843673076 : True := trivial
theorem law_holds.tw160851071654074740 : True := trivial
theorem law_holds.tw2127001594154878533 : True := trivial
theorem law_holds.tw11583271856484122956 : True := trivial
theorem law_holds.tw7404543985812422374 : True := trivial
theorem law_holds.tw2395105632611409283 : True := trivial
theorem law_holds.tw13848119269249539950 : True := trivial
theorem law_holds.tw9317688335297629284 : True := trivial
theorem law_holds.tw13116430531795314387 : True := trivial
theorem law_holds.tw6333624483447246961 : True := trivial
theorem law_holds.tw8312275703017117140 : True := trivial
theorem law_holds.tw723553956927101924 : True := trivial
theorem law_holds.tw16335311869981183947 : True := trivial
theorem law_holds.tw1499712698015984848 : True := trivial
theorem law_holds.tw13800757232730249582 : True := trivial
theorem law_holds.tw3742325753681652743 : True := trivial
theorem law_holds.tw18116031599527039140 : True := trivial
theorem law_holds.tw8045378594462670225 : True := trivial
theorem law_holds.tw10264638600885302300 : True := trivial
theorem law_holds.tw9975692261777386857 : True := trivial
theorem law_holds.tw17255088995462705879 : True := trivial
theorem law_holds.tw9330791266181909545 : True := trivial
theorem law_holds.tw3958906441317128266 : True := trivial
theorem law_holds.tw1689763614830377041 : True := trivial
theorem law_holds.tw3253820488102484341 : True := trivial
theorem law_holds.tw5647190250986860303 : True := trivial
theorem law_holds.tw6553333263825352884 : True := trivial
theorem law_holds.tw7169296243666066974 : True := trivial
theorem law_holds.tw575232530192455986 : True := trivial
theorem law_holds.tw4492043994082249198 : True := trivial
theorem law_holds.tw10968802771074238664 : True := trivial
theorem law_holds.tw2088057726675268939 : True := trivial
theorem law_holds.tw13287204720269558064 : True := trivial
theorem law_holds.tw7910590604623066228 : True := trivial
theorem law_holds.tw7345768897557615242 : True := trivial
theorem law_holds.tw4531269909727899710 : True := trivial
theorem law_holds.tw4433843952089619705 : True := trivial
theorem law_holds.tw15526298677375409021 : True := trivial
theorem law_holds.tw1909877003179415225 : True := trivial
theorem law_holds.tw15352218221683021774 : True := trivial
theorem law_holds.tw10566571302883470556 : True := trivial
theorem law_holds.tw14354538779393863138 : True := trivial
theorem law_holds.tw3426337659310251177 : True := trivial
theorem law_holds.tw15759456685926392790 : True := trivial
theorem law_holds.tw10817052189556005596 : True := trivial
theorem law_holds.tw14983226153234331074 : True := trivial
theorem law_holds.tw1099259369241382048 : True := trivial
theorem law_holds.tw1929443778124869092 : True := trivial
theorem law_holds.tw8297313697389066934 : True := trivial
theorem law_holds.tw2055734563569237896 : True := trivial
theorem law_holds.tw13280740594461564331 : True := trivial
theorem law_holds.tw2856731137302751260 : True := trivial
theorem law_holds.tw13392613628428298086 : True := trivial
theorem law_holds.tw11966672015165255308 : True := trivial
theorem law_holds.tw15014403891855920072 : True := trivial
theorem law_holds.tw6564709946809587534 : True := trivial
theorem law_holds.tw13425932534011304816 : True := trivial
theorem law_holds.tw2442502879453312968 : True := trivial
theorem law_holds.tw17180001009569633970 : True := trivial
theorem law_holds.tw10024239376800412576 : True := trivial
theorem law_holds.tw3896150654470677357 : True := trivial
theorem law_holds.tw17183477848116922584 : True := trivial
theorem law_holds.tw15607887362523206001 : True := trivial
theorem law_holds.tw8472228645029834797 : True := trivial
theorem law_holds.tw6911747868599837429 : True := trivial
theorem law_holds.tw17553930602362091883 : True := trivial
theorem law_holds.tw8957123355933967898 : True := trivial
theorem law_holds.tw7472407996622490835 : True := trivial
theorem law_holds.tw5791418645094131800 : True := trivial
theorem law_holds.tw10441050188594101415 : True := trivial
theorem law_holds.tw8970147916757833333 : True := trivial
theorem law_holds.tw3927331946688356228 : True := trivial
theorem law_holds.tw3586223124089845285 : True := trivial
theorem law_holds.tw17598101756349436640 : True := trivial
theorem law_holds.tw11297062200503488469 : True := trivial
theorem law_holds.tw2102315897755806987 : True := trivial
theorem law_holds.tw519298541982818421 : True := trivial
theorem law_holds.tw16883458599210261866 : True := trivial
theorem law_holds.tw17345407343664743607 : True := trivial
theorem law_holds.tw12303009252429188658 : True := trivial
theorem law_holds.tw16406091861079842607 : True := trivial
theorem law_holds.tw17253903310271361901 : True := trivial
theorem law_holds.tw14498155544194170393 : True := trivial
theorem law_holds.tw10764541510735364805 : True := trivial
theorem law_holds.tw13656764964264320472 : True := trivial
theorem law_holds.tw18155623678392573649 : True := trivial
theorem law_holds.tw8939018918628865471 : True := trivial
theorem law_holds.tw6881874429007886204 : True := trivial
theorem law_holds.tw2865737869514987218 : True := trivial
theorem law_holds.tw4072507727158212662 : True := trivial
theorem law_holds.tw10679931392274172632 : True := trivial
theorem law_holds.tw4635674611617693574 : True := trivial
theorem law_holds.tw13478230802861573701 : True := trivial
theorem law_holds.tw8441880690091102137 : True := trivial
theorem law_holds.tw16066104587097768911 : True := trivial
theorem law_holds.tw12889673554181485818 : True := trivial
theorem law_holds.tw15006436103509636135 : True := trivial
theorem law_holds.tw14377833709258309704 : True := trivial
theorem law_holds.tw4575823598074768960 : True := trivial
theorem law_holds.tw15883345262158282383 : True := trivial
theorem law_holds.tw2578278018795888234 : True := trivial
theorem law_holds.tw17419225075052043924 : True := trivial
theorem law_holds.tw4008084134468147086 : True := trivial
theorem law_holds.tw850272041215511910 : True := trivial
theorem law_holds.tw2401843486660128364 : True := trivial
theorem law_holds.tw10188763426450519768 : True := trivial
theorem law_holds.tw8806649888931605024 : True := trivial
theorem law_holds.tw669063445224795674 : True := trivial
theorem law_holds.tw12108977868540685583 : True := trivial
theorem law_holds.tw14571795756577361901 : True := trivial
theorem law_holds.tw5765542928187402639 : True := trivial
theorem law_holds.tw367903286550418209 : True := trivial
theorem law_holds.tw2269349572991927816 : True := trivial
theorem law_holds.tw12949845418750544790 : True := trivial
theorem law_holds.tw14289194402921355359 : True := trivial
theorem law_holds.tw5037970770195530229 : True := trivial
theorem law_holds.tw14875730727996063832 : True := trivial
theorem law_holds.tw1377309892636839040 : True := trivial
theorem law_holds.tw12645607732203181651 : True := trivial
theorem law_holds.tw16174998905534648557 : True := trivial
theorem law_holds.tw16184459414616452189 : True := trivial
theorem law_holds.tw15646520184464998804 : True := trivial
theorem law_holds.tw4818577856007422655 : True := trivial
theorem law_holds.tw8909828626151137519 : True := trivial
theorem law_holds.tw2887994833065977647 : True := trivial
theorem law_holds.tw3258674603298201628 : True := trivial
theorem law_holds.tw9887912731928775018 : True := trivial
theorem law_holds.tw8210953160692291510 : True := trivial
theorem law_holds.tw12780804625047726367 : True := trivial
theorem law_holds.tw1681173693875575501 : True := trivial
theorem law_holds.tw18254337876149969668 : True := trivial
theorem law_holds.tw9009705080361974123 : True := trivial
theorem law_holds.tw10368410895845634921 : True := trivial
theorem law_holds.tw972601921857779769 : True := trivial
theorem law_holds.tw15567558954438479688 : True := trivial
theorem law_holds.tw12668044768207566790 : True := trivial
theorem law_holds.tw3674665740742831893 : True := trivial
theorem law_holds.tw13674158931818614880 : True := trivial
theorem law_holds.tw10725132931349513577 : True := trivial
theorem law_holds.tw6782543999389746731 : True := trivial
theorem law_holds.tw660297872995803996 : True := trivial
theorem law_holds.tw5222685764011923507 : True := trivial
theorem law_holds.tw4517222822008671029 : True := trivial
theorem law_holds.tw3005452535816212104 : True := trivial
theorem law_holds.tw15917412866852771543 : True := trivial
theorem law_holds.tw11378576750377235499 : True := trivial
theorem law_holds.tw5087963091746180759 : True := trivial
theorem law_holds.tw4593294709026258786 : True := trivial
theorem law_holds.tw2017991025062827469 : True := trivial
theorem law_holds.tw8040771413219435098 : True := trivial
theorem law_holds.tw2211468639325271704 : True := trivial
theorem law_holds.tw15162217921772873613 : True := trivial
theorem law_holds.tw2175471002772951711 : True := trivial
theorem law_holds.tw6882020374766023752 : True := trivial
theorem law_holds.tw6719018230134327050 : True := trivial
theorem law_holds.tw3110860835449505704 : True := trivial
theorem law_holds.tw17294823503141414406 : True := trivial
theorem law_holds.tw653560878884961445 : True := trivial
theorem law_holds.tw4916342969005030805 : True := trivial
theorem law_holds.tw8591876402714022951 : True := trivial
theorem law_holds.tw14988988175077273356 : True := trivial
theorem law_holds.tw11182679623053108816 : True := trivial
theorem law_holds.tw11463670642173560981 : True := trivial
theorem law_holds.tw9871626496009991038 : True := trivial
theorem law_holds.tw2782584491509435139 : True := trivial
theorem law_holds.tw5112083995522966620 : True := trivial
theorem law_holds.tw2382714987290314120 : True := trivial
theorem law_holds.tw607667584577438428 : True := trivial
theorem law_holds.tw16765433158599729185 : True := trivial
theorem law_holds.tw3910120701321347557 : True := trivial
theorem law_holds.tw13257055565626018733 : True := trivial
theorem law_holds.tw10977758072711909379 : True := trivial
theorem law_holds.tw1193751542720294520 : True := trivial
theorem law_holds.tw13028658284911697911 : True := trivial
theorem law_holds.tw14883556706271630602 : True := trivial
theorem law_holds.tw12831907817818079685 : True := trivial
theorem law_holds.tw15031514592837009168 : True := trivial
theorem law_holds.tw5725672013846136890 : True := trivial
theorem law_holds.tw10242277825702978295 : True := trivial
theorem law_holds.tw4073161259928356638 : True := trivial
theorem law_holds.tw17911580528928914924 : True := trivial
theorem law_holds.tw631266038723830076 : True := trivial
theorem law_holds.tw7313538909654459803 : True := trivial
theorem law_holds.tw4820369329881294799 : True := trivial
theorem law_holds.tw13921793114692110018 : True := trivial
theorem law_holds.tw12153922251378674784 : True := trivial
theorem law_holds.tw15123554796541802991 : True := trivial
theorem law_holds.tw6747315666322679634 : True := trivial
theorem law_holds.tw4614512636035447770 : True := trivial
theorem law_holds.tw17249539165995611551 : True := trivial
theorem law_holds.tw11823568539219059922 : True := trivial
theorem law_holds.tw8634839017697508684 : True := trivial
theorem law_holds.tw9529696498207198238 : True := trivial
theorem law_holds.tw17758146289354676595 : True := trivial
theorem law_holds.tw6346621912233149993 : True := trivial
theorem law_holds.tw16098570224071239113 : True := trivial
theorem law_holds.tw7743764779111840046 : True := trivial
theorem law_holds.tw1832781179975386347 : True := trivial
theorem law_holds.tw15829985883664642994 : True := trivial
theorem law_holds.tw11167238688639235718 : True := trivial
theorem law_holds.tw6856271012784772064 : True := trivial
theorem law_holds.tw4991859449750346478 : True := trivial
theorem law_holds.tw3850404396616230974 : True := trivial
theorem law_holds.tw13528896222378765290 : True := trivial
theorem law_holds.tw8835965917227929528 : True := trivial
theorem law_holds.tw7484302960587174374 : True := trivial
theorem law_holds.tw4963573110770748834 : True := trivial
theorem law_holds.tw908389787484368193 : True := trivial
theorem law_holds.tw15873654808861938513 : True := trivial
theorem law_holds.tw9965324091349369512 : True := trivial
theorem law_holds.tw8157880013524578536 : True := trivial
theorem law_holds.tw10108825076125807744 : True := trivial
theorem law_holds.tw5405950176245079350 : True := trivial
theorem law_holds.tw3046938939346580660 : True := trivial
theorem law_holds.tw16963379459963715452 : True := trivial
theorem law_holds.tw11330957891505755796 : True := trivial
theorem law_holds.tw2136269947727277649 : True := trivial
theorem law_holds.tw8666519363043736892 : True := trivial
theorem law_holds.tw1973129929022764952 : True := trivial
theorem law_holds.tw3663427449441712954 : True := trivial
theorem law_holds.tw8386679336120195906 : True := trivial
theorem law_holds.tw2039724139929955007 : True := trivial
theorem law_holds.tw14385925486924208373 : True := trivial
theorem law_holds.tw18197852217732850983 : True := trivial
theorem law_holds.tw6861490101519172755 : True := trivial
theorem law_holds.tw5277994541964179845 : True := trivial
theorem law_holds.tw8191475993861738794 : True := trivial
theorem law_holds.tw5488932636959071455 : True := trivial
theorem law_holds.tw15320506598460614908 : True := trivial
theorem law_holds.tw13154458805202713791 : True := trivial
theorem law_holds.tw8413839820570837369 : True := trivial
theorem law_holds.tw17371252989657294990 : True := trivial
theorem law_holds.tw11556845855556705167 : True := trivial
theorem law_holds.tw10954758410522031216 : True := trivial
theorem law_holds.tw11956458263131016624 : True := trivial
theorem law_holds.tw13958071646730322851 : True := trivial
theorem law_holds.tw17499823404086765753 : True := trivial
theorem law_holds.tw9032369906271771983 : True := trivial
theorem law_holds.tw5989267464594152519 : True := trivial
theorem law_holds.tw9290190842861060508 : True := trivial
theorem law_holds.tw18234560199702728603 : True := trivial
theorem law_holds.tw2376695672464595844 : True := trivial
theorem law_holds.tw3882201998751590657 : True := trivial
theorem law_holds.tw8854015012368427407 : True := trivial
theorem law_holds.tw3136910860242942599 : True := trivial
theorem law_holds.tw11223184984439025696 : True := trivial
theorem law_holds.tw15617896438947887921 : True := trivial
theorem law_holds.tw1588742098881680585 : True := trivial
theorem law_holds.tw1791086108937442324 : True := trivial
theorem law_holds.tw194939583717160490 : True := trivial
theorem law_holds.tw15514866124879379921 : True := trivial
theorem law_holds.tw18430954121086234272 : True := trivial
theorem law_holds.tw8984712037535005518 : True := trivial
theorem law_holds.tw12442163767917924457 : True := trivial
theorem law_holds.tw10102834934717047885 : True := trivial
theorem law_holds.tw270554467692517631 : True := trivial
theorem law_holds.tw312863333873483875 : True := trivial
theorem law_holds.tw8652346329174877282 : True := trivial
theorem law_holds.tw3127913417769977931 : True := trivial
theorem law_holds.tw17848598403364733487 : True := trivial
theorem law_holds.tw12926530282613403586 : True := trivial
theorem law_holds.tw2139843940965253949 : True := trivial
theorem law_holds.tw11532970265236058100 : True := trivial
theorem law_holds.tw13650905803964671038 : True := trivial
theorem law_holds.tw16074064945343616743 : True := trivial
theorem law_holds.tw1622690429015379626 : True := trivial
theorem law_holds.tw12874571214893485439 : True := trivial
theorem law_holds.tw3390839446522356110 : True := trivial
theorem law_holds.tw733571504165245281 : True := trivial
theorem law_holds.tw5480795135073391753 : True := trivial
theorem law_holds.tw11283290899035178999 : True := trivial
theorem law_holds.tw11404014056486942332 : True := trivial
theorem law_holds.tw12210932052861102225 : True := trivial
theorem law_holds.tw17899081815984039989 : True := trivial
theorem law_holds.tw7304591109411159013 : True := trivial
theorem law_holds.tw14904137174637212347 : True := trivial
theorem law_holds.tw326997939128634323 : True := trivial
theorem law_holds.tw7675160084493405025 : True := trivial
theorem law_holds.tw14281342344845405768 : True := trivial
theorem law_holds.tw3809755536050820187 : True := trivial
theorem law_holds.tw15140378357190847165 : True := trivial
theorem law_holds.tw9483915327669328748 : True := trivial
theorem law_holds.tw6776455111828631412 : True := trivial
theorem law_holds.tw2851267720448770887 : True := trivial
theorem law_holds.tw245764215241151709 : True := trivial
theorem law_holds.tw5212653520564569363 : True := trivial
theorem law_holds.tw12256559969785099955 : True := trivial
theorem law_holds.tw17974257514489008736 : True := trivial
theorem law_holds.tw9897484093202304508 : True := trivial
theorem law_holds.tw12029126673135917974 : True := trivial
theorem law_holds.tw5731563423909890137 : True := trivial
theorem law_holds.tw4439653461905209652 : True := trivial
theorem law_holds.tw6952626026076278478 : True := trivial
theorem law_holds.tw123295346585929383 : True := trivial
theorem law_holds.tw10609929442622069884 : True := trivial
theorem law_holds.tw3816018429785431304 : True := trivial
theorem law_holds.tw9207643191828677137 : True := trivial
theorem law_holds.tw6709271908398517637 : True := trivial
theorem law_holds.tw2043166853727251185 : True := trivial
theorem law_holds.tw3551631022101015893 : True := trivial
theorem law_holds.tw2643161274291862537 : True := trivial
theorem law_holds.tw2644310842459337959 : True := trivial
theorem law_holds.tw16827775902095551856 : True := trivial
theorem law_holds.tw9758593294864014727 : True := trivial
theorem law_holds.tw13342137609418717338 : True := trivial
theorem law_holds.tw8312341600987523519 : True := trivial
theorem law_holds.tw15202863084288179589 : True := trivial
theorem law_holds.tw8137031500313473552 : True := trivial
theorem law_holds.tw13402424001964919149 : True := trivial
theorem law_holds.tw9952934120092978494 : True := trivial
theorem law_holds.tw9502071092897418529 : True := trivial
theorem law_holds.tw14746732674962391887 : True := trivial
theorem law_holds.tw5640673133297012132 : True := trivial
theorem law_holds.tw5994716906283268228 : True := trivial
theorem law_holds.tw14646867148444618371 : True := trivial
theorem law_holds.tw16165715940066559518 : True := trivial
theorem law_holds.tw1737005901722704485 : True := trivial
theorem law_holds.tw13336368349410954346 : True := trivial
theorem law_holds.tw4797790103318477656 : True := trivial
theorem law_holds.tw8549365171731915398 : True := trivial
theorem law_holds.tw17274716441693411508 : True := trivial
theorem law_holds.tw498061464947678834 : True := trivial
theorem law_holds.tw12291295341487003417 : True := trivial
theorem law_holds.tw10465528174321978529 : True := trivial
theorem law_holds.tw1258919526383655059 : True := trivial
theorem law_holds.tw1997475870405608531 : True := trivial
theorem law_holds.tw15352839923633478061 : True := trivial
theorem law_holds.tw12001131798957381970 : True := trivial
theorem law_holds.tw15293083901398250104 : True := trivial
theorem law_holds.tw6869992995446874880 : True := trivial
theorem law_holds.tw9992725586745946429 : True := trivial
theorem law_holds.tw14531881819706719225 : True := trivial
theorem law_holds.tw2667362832866536986 : True := trivial
theorem law_holds.tw445335354869643106 : True := trivial
theorem law_holds.tw4781243967656130014 : True := trivial
theorem law_holds.tw9634471323475708679 : True := trivial
theorem law_holds.tw2414130084998747865 : True := trivial
theorem law_holds.tw10442559174759676424 : True := trivial
theorem law_holds.tw13281950902743806629 : True := trivial
theorem law_holds.tw16708887144172644987 : True := trivial
theorem law_holds.tw13431030151845061361 : True := trivial
theorem law_holds.tw8790382262760724670 : True := trivial
theorem law_holds.tw2414361068126709639 : True := trivial
theorem law_holds.tw3033269912633744064 : True := trivial
theorem law_holds.tw14997073306097389879 : True := trivial
theorem law_holds.tw14596297492920191028 : True := trivial
theorem law_holds.tw7351129398174139865 : True := trivial
theorem law_holds.tw17156363617357476176 : True := trivial
theorem law_holds.tw3783255490424437341 : True := trivial
theorem law_holds.tw687851300278632918 : True := trivial
theorem law_holds.tw8061732933902216757 : True := trivial
theorem law_holds.tw2731376850318366449 : True := trivial
theorem law_holds.tw15644819842384902770 : True := trivial
theorem law_holds.tw16098122237329998606 : True := trivial
theorem law_holds.tw12977093529070104392 : True := trivial
theorem law_holds.tw3625451137614018508 : True := trivial
theorem law_holds.tw6354221664691742131 : True := trivial
theorem law_holds.tw7185456241796803578 : True := trivial
theorem law_holds.tw15694993059591697976 : True := trivial
theorem law_holds.tw8330938851228082562 : True := trivial
theorem law_holds.tw881140697980615281 : True := trivial
theorem law_holds.tw8829074647290719032 : True := trivial
theorem law_holds.tw14252543395802736299 : True := trivial
theorem law_holds.tw293627430662643474 : True := trivial
theorem law_holds.tw1550374771381668074 : True := trivial
theorem law_holds.tw5062152199769849712 : True := trivial
theorem law_holds.tw2322801206320994539 : True := trivial
theorem law_holds.tw14335913921861858828 : True := trivial
theorem law_holds.tw12622292602297523153 : True := trivial
theorem law_holds.tw11599213532126039444 : True := trivial
theorem law_holds.tw17458534234597298029 : True := trivial
theorem law_holds.tw18006792725990754497 : True := trivial
theorem law_holds.tw14545874151571354728 : True := trivial
theorem law_holds.tw11206171021150027133 : True := trivial
theorem law_holds.tw1767730674963353768 : True := trivial
theorem law_holds.tw8763168800255643514 : True := trivial
theorem law_holds.tw5898729028444588960 : True := trivial
theorem law_holds.tw15272395603832836080 : True := trivial
theorem law_holds.tw2139172203440323022 : True := trivial
theorem law_holds.tw16612359704951912572 : True := trivial
theorem law_holds.tw16606368319796509530 : True := trivial
theorem law_holds.tw11609493526922420660 : True := trivial
theorem law_holds.tw15242022910975006910 : True := trivial
theorem law_holds.tw9826770418859484059 : True := trivial
theorem law_holds.tw11924911360389889469 : True := trivial
theorem law_holds.tw11918526154901971515 : True := trivial
theorem law_holds.tw5364902710198789758 : True := trivial
theorem law_holds.tw8804120190785687885 : True := trivial
theorem law_holds.tw12476058986133298565 : True := trivial
theorem law_holds.tw2142710703020379005 : True := trivial
theorem law_holds.tw3049941959672503198 : True := trivial
theorem law_holds.tw1778412455037948541 : True := trivial
theorem law_holds.tw7632474492907744902 : True := trivial
theorem law_holds.tw1995169965324791860 : True := trivial
theorem law_holds.tw10812634152524527747 : True := trivial
theorem law_holds.tw3572487005457819259 : True := trivial
theorem law_holds.tw9682718004065560343 : True := trivial
theorem law_holds.tw11098625913536864229 : True := trivial
theorem law_holds.tw18221428039690301666 : True := trivial
theorem law_holds.tw6317479115527610633 : True := trivial
theorem law_holds.tw10876394233666535175 : True := trivial
theorem law_holds.tw17137235678499792623 : True := trivial
theorem law_holds.tw3024374315939245509 : True := trivial
theorem law_holds.tw15802469936163623734 : True := trivial
theorem law_holds.tw1186782194237197914 : True := trivial
theorem law_holds.tw8785698371604719795 : True := trivial
theorem law_holds.tw12342728606916771844 : True := trivial
theorem law_holds.tw10283916278828761575 : True := trivial
theorem law_holds.tw16092355726972411579 : True := trivial
theorem law_holds.tw1989176631692091739 : True := trivial
theorem law_holds.tw6041440012092600215 : True := trivial
theorem law_holds.tw17865009358878524859 : True := trivial
theorem law_holds.tw11046636381182338224 : True := trivial
theorem law_holds.tw4995542688137877417 : True := trivial
theorem law_holds.tw8075568018651887793 : True := trivial
theorem law_holds.tw13190408463805328480 : True := trivial
theorem law_holds.tw2903333896348957400 : True := trivial
theorem law_holds.tw12634321019024901981 : True := trivial
theorem law_holds.tw16873695467490121585 : True := trivial
theorem law_holds.tw8553002610548859549 : True := trivial
theorem law_holds.tw9552830710289189752 : True := trivial
theorem law_holds.tw16625653849559256525 : True := trivial
theorem law_holds.tw2325693721150917532 : True := trivial
theorem law_holds.tw12597187120891498251 : True := trivial
theorem law_holds.tw9184033795430018204 : True := trivial
theorem law_holds.tw1247253217256132012 : True := trivial
theorem law_holds.tw16307713440670912930 : True := trivial
theorem law_holds.tw10726639523019406850 : True := trivial
theorem law_holds.tw15448297888555860652 : True := trivial
theorem law_holds.tw11807458097852795031 : True := trivial
theorem law_holds.tw14350573489546498162 : True := trivial
theorem law_holds.tw724200737284857819 : True := trivial
theorem law_holds.tw4464252984393422682 : True := trivial
theorem law_holds.tw11764581739189218997 : True := trivial
theorem law_holds.tw4143738569270334224 : True := trivial
theorem law_holds.tw15884304794012968992 : True := trivial
theorem law_holds.tw13590972695719381181 : True := trivial
theorem law_holds.tw3612332870262773283 : True := trivial
theorem law_holds.tw4273555757443719353 : True := trivial
theorem law_holds.tw14489315793263303861 : True := trivial
theorem law_holds.tw6934448944433832347 : True := trivial
theorem law_holds.tw17027635718292003107 : True := trivial
theorem law_holds.tw1285599515219305098 : True := trivial
theorem law_holds.tw14499810825090155391 : True := trivial
theorem law_holds.tw7480714314260584917 : True := trivial
theorem law_holds.tw17028624522117568015 : True := trivial
theorem law_holds.tw11289095316329951393 : True := trivial
theorem law_holds.tw11946022803392826334 : True := trivial
theorem law_holds.tw13250372474279835810 : True := trivial
theorem law_holds.tw10709909458450059161 : True := trivial
theorem law_holds.tw3012480247710183994 : True := trivial
theorem law_holds.tw16202244259718314570 : True := trivial
theorem law_holds.tw13780023080261437657 : True := trivial
theorem law_holds.tw9220624806794609946 : True := trivial
theorem law_holds.tw3956099054510807996 : True := trivial
theorem law_holds.tw2096525686368166746 : True := trivial
theorem law_holds.tw17523808032732122987 : True := trivial
theorem law_holds.tw17237755526102222789 : True := trivial
theorem law_holds.tw3959601488294255719 : True := trivial
theorem law_holds.tw16873799427995575018 : True := trivial
theorem law_holds.tw6765152471904792315 : True := trivial
theorem law_holds.tw11097158420108258118 : True := trivial
theorem law_holds.tw13301187468288870568 : True := trivial
theorem law_holds.tw15533563059666576871 : True := trivial
theorem law_holds.tw16512031998365420562 : True := trivial
theorem law_holds.tw13294052699122959228 : True := trivial
theorem law_holds.tw4913491355128607118 : True := trivial
theorem law_holds.tw17830944117370523080 : True := trivial
theorem law_holds.tw7407239408455114201 : True := trivial
theorem law_holds.tw1242418559920758562 : True := trivial
theorem law_holds.tw11470271118054631628 : True := trivial
theorem law_holds.tw15806970514647361693 : True := trivial
theorem law_holds.tw16099233806120587224 : True := trivial
theorem law_holds.tw15796309260620551687 : True := trivial
theorem law_holds.tw15837452725152343555 : True := trivial
theorem law_holds.tw15359609613788013507 : True := trivial
theorem law_holds.tw16914220770136414715 : True := trivial
theorem law_holds.tw17942709131360195518 : True := trivial
theorem law_holds.tw12223724995276690173 : True := trivial
theorem law_holds.tw3955097671198598788 : True := trivial
theorem law_holds.tw9524400087533092186 : True := trivial
theorem law_holds.tw10350734228115807855 : True := trivial
theorem law_holds.tw12423290165067640415 : True := trivial
theorem law_holds.tw7917754353467396125 : True := trivial
theorem law_holds.tw18269650602155537469 : True := trivial
theorem law_holds.tw6116483010803129801 : True := trivial
theorem law_holds.tw3545908947808057021 : True := trivial
theorem law_holds.tw12732824653754844360 : True := trivial
theorem law_holds.tw8369274380968253667 : True := trivial
theorem law_holds.tw145366339536180231 : True := trivial
theorem law_holds.tw9032088933897422861 : True := trivial
theorem law_holds.tw7767266014307106701 : True := trivial
theorem law_holds.tw981846192996546977 : True := trivial
theorem law_holds.tw7283070072754485986 : True := trivial
theorem law_holds.tw15778274884729865531 : True := trivial
theorem law_holds.tw302768837105346163 : True := trivial
theorem law_holds.tw15720521576913467304 : True := trivial
theorem law_holds.tw2295933128562542503 : True := trivial
theorem law_holds.tw16898189318038581234 : True := trivial
theorem law_holds.tw6189876280036216102 : True := trivial
theorem law_holds.tw8712014163911447464 : True := trivial
theorem law_holds.tw6122225920155410508 : True := trivial
theorem law_holds.tw7604666192120794032 : True := trivial
theorem law_holds.tw9255152265573255198 : True := trivial
theorem law_holds.tw13097044212144736960 : True := trivial
theorem law_holds.tw7566432030715092817 : True := trivial
theorem law_holds.tw15544829507116839252 : True := trivial
theorem law_holds.tw12835091436910803158 : True := trivial
theorem law_holds.tw3158129796062787159 : True := trivial
theorem law_holds.tw10362271348294423435 : True := trivial
theorem law_holds.tw12115171985352901274 : True := trivial
theorem law_holds.tw6377815916425241027 : True := trivial
theorem law_holds.tw5926295103528105954 : True := trivial
theorem law_holds.tw12320438053989627958 : True := trivial
theorem law_holds.tw13342518741750886279 : True := trivial
theorem law_holds.tw14892801356780361778 : True := trivial
theorem law_holds.tw6224442319413202806 : True := trivial
theorem law_holds.tw10517181812226103804 : True := trivial
theorem law_holds.tw5914491427308094424 : True := trivial
theorem law_holds.tw9432397437662838624 : True := trivial
theorem law_holds.tw18203989763732354715 : True := trivial
theorem law_holds.tw2589748818833699389 : True := trivial
theorem law_holds.tw5966972899127898822 : True := trivial
theorem law_holds.tw7019463264422422977 : True := trivial
theorem law_holds.tw12419048959643632839 : True := trivial
theorem law_holds.tw3721179886434227535 : True := trivial
theorem law_holds.tw13882729330811710610 : True := trivial
theorem law_holds.tw4030767218360268280 : True := trivial
theorem law_holds.tw13087128984098923117 : True := trivial
theorem law_holds.tw11347954631545130290 : True := trivial
theorem law_holds.tw15522444059895599089 : True := trivial
theorem law_holds.tw7052821283958023361 : True := trivial
theorem law_holds.tw2387193687640843687 : True := trivial
theorem law_holds.tw13190703287169160282 : True := trivial
theorem law_holds.tw7014720503175028613 : True := trivial
theorem law_holds.tw16978406815995349258 : True := trivial
theorem law_holds.tw462603977267732627 : True := trivial
theorem law_holds.tw11315637435222106236 : True := trivial
theorem law_holds.tw9442120237013122589 : True := trivial
theorem law_holds.tw17470365217354309832 : True := trivial
theorem law_holds.tw14957179600199517237 : True := trivial
theorem law_holds.tw10027879121665395642 : True := trivial
theorem law_holds.tw10079444305495103266 : True := trivial
theorem law_holds.tw16691439815215545270 : True := trivial
theorem law_holds.tw12687621791434340054 : True := trivial
theorem law_holds.tw16381176275627223697 : True := trivial
theorem law_holds.tw10870653069706475693 : True := trivial
theorem law_holds.tw6723812968561706957 : True := trivial
theorem law_holds.tw1191432763711471526 : True := trivial
theorem law_holds.tw14918994710005357087 : True := trivial
theorem law_holds.tw4594515247299072714 : True := trivial
theorem law_holds.tw10360522573172651426 : True := trivial
theorem law_holds.tw11803358882649189518 : True := trivial
theorem law_holds.tw1722738952054099684 : True := trivial
theorem law_holds.tw4741859662064258567 : True := trivial
theorem law_holds.tw1172607208729018732 : True := trivial
theorem law_holds.tw17529362906406652863 : True := trivial
theorem law_holds.tw12503156628232749375 : True := trivial
theorem law_holds.tw8285764192309689115 : True := trivial
theorem law_holds.tw15341342317828512493 : True := trivial
theorem law_holds.tw7636989558263936852 : True := trivial
theorem law_holds.tw5907203647135998699 : True := trivial
theorem law_holds.tw17089861810051081540 : True := trivial
theorem law_holds.tw17992701069971915451 : True := trivial
set_option tactic.hygienic false
set_option Elab.async true in
theorem law_holds : PySem.Challenge.rw_yi0033_01.Holds := by
  w_on; o_law; k_head; (case hw => w_witness2)
  w_top off
  k_fill
  intro w s₀ s₁ mg mb G Y fa o pm cd doc dV kV ho hd hcd hD hmg hg args vals as hpre hlay hrd hwl hlo
  have KX := km_in_of Y
  have hT8 := km_tabs_of Y
  have X := (Ground.X G).1
  have V := (Ground.X G).2
  refine Ground.open G ?_
  intro T B D TE TW
  try (refine guard_noD D (by decide +kernel) ?_; clear D)
  have hT9 : TabsAt [((366 : Addr), (362 : Addr)), (322, 320)] _ := List.forall_mem_cons.mpr ⟨⟨codeHd_of_K (c := 366) (P := 362) KX (by kernel_rfl), hT8 362 (by k_mem)⟩, List.forall_mem_cons.mpr ⟨⟨codeHd_of_K (c := 322) (P := 320) KX (by kernel_rfl), hT8 320 (by k_mem)⟩, List.forall_mem_nil _⟩⟩
  clear hmg
  wrow_args hpre hlay hrd hwl hlo
  all_goals (
    first | refine callC_kw (enter_call ?_) | refine enter_call ?_
    w_top on)
  refine kn_postG hT9 (fun _ => rfl) (by first | rfl | decide | kernel_rfl) ?_
  w_call any ho hd hcd hD T F
  clear hd
  kn_ghosts F T
  k_drop
  clear G Y hT8 V X B TE TW hD ho hcd
  have hb0 : AllBare s₁.gens := AllBare.of_eq hg
  clear hg
  rename Top _ _ _ _ _ _ => T9
  obtain ⟨p0, lo0, me0, T0⟩ : ∃ p0 lo0 me0, Top p0 lo0 me0 mg mb (ghostOf s₁.heap [(366, 362), (322, 320)]) := ⟨_, _, _, T9⟩
  clear T9 T
  have hH1 : ∀ b o, (ghostOf s₁.heap [(366, 362), (322, 320)]).get? b = some o → (ghostOf s₁.heap [(366, 362), (322, 320)]).get? b = some o := fun _ _ e => e
  revert hH1
  generalize hH0 : ghostOf s₁.heap [(366, 362), (322, 320)] = H0 at *
  intro hH1
  clear hH1
  generalize s₁.heap.objs.size = L0 at *
  have hg1 : GnNe (L0 + 1) [(362, tabObj #[]), (320, tabObj #[])] := ⟨by omega, by omega, trivial⟩
  have hg2 : GnNe (L0 + 1 + 1) [(362, tabObj #[]), (320, tabObj #[])] := ⟨by omega, by omega, trivial⟩
  with_reducible show wpAny _ _ _ _ _ _
  k_fold
  repeat' ((fail_if_success (with_reducible show wpAny _ _ (exec (Stmt.Assign [PySem.Expr.Name (Str.ofString "parts") _] _ _) _) _ _ _)); (first | ((with_reducible refine qb1 ?_); (try dsimp only)) | ((with_reducible refine qb2 ?_); (try dsimp only)) | ((with_reducible refine qa1 ?_); (try dsimp only)) | ((with_reducible refine qa2 ?_); (try dsimp only [List.cons_append, List.nil_append])) | ((with_reducible refine qs1 ?_); (try dsimp only)) | ((with_reducible refine qs2 ?_); (try dsimp only)) | (with_reducible refine qs3 ?_) | (with_reducible refine qs4 ?_) | ((with_reducible refine qc1 ?_); (try dsimp only)) | ((with_reducible refine qu1 ?_); (try dsimp only)) | (with_reducible refine qu2 ?_) | ((with_reducible refine qg1 ?_); (try dsimp only)) | (with_reducible refine qg2 ?_) | ((with_reducible refine qt1 ?_); (try dsimp only)) | ((with_reducible refine qr1 ?_); (try dsimp only)) | (with_reducible refine qb0 ?_) | (with_reducible refine qu0 ?_) | ((with_reducible show wpAny _ _ (spliced (backTo _ (starEach (_ :: _) _))) _ _ _); k_dflt (refine qa0 ?_)) | ((with_reducible show wpAny _ _ (execs (_ :: _) _) _ _ _); first | (k_here; k_gentoks) | (with_reducible refine qs0 ?_)) | ((with_reducible show wpAny _ _ (eval (PySem.Expr.Call (PySem.Expr.Name _ _) _ [] _) _) _ _ _); (fail_if_success (with_reducible show wpAny _ _ (eval _ (compEnvC _ _ _ _)) _ _ _)); k_dflt (refine qc0 ?_)) | ((with_reducible show wpAny _ _ (exec (Stmt.Assign [PySem.Expr.Name _ _] _ _) _) _ _ _); (fail_if_success (with_reducible show wpAny _ _ (exec (Stmt.Assign _ (PySem.Expr.ListComp _ _ _ _) _) _) _ _ _)); k_dflt (refine qg0 ?_)) | ((with_reducible show wpAny _ _ (eval (PySem.Expr.Attribute (PySem.Expr.Name _ _) _ _) _) _ _ _); k_dflt (refine qt0 ?_)) | (with_reducible refine qr0 ?_) | ((with_reducible show wpAny _ _ (call (Value.ref _) _ _) _ _ _); first | (with_reducible (k_here; (with_reducible show wpAny _ _ (call (Value.ref 330) _) _ _ _); k_dflt (refine' dot_use ?zzk1 ?zzk2 ?zzk3 ?zzk4 ?zzk5 ?zzk6 ?zzu1 ?zzu2 ?zzt1 ?zzt2 ?zzm0 ?zzm1 ?zzm2 ?zzm3 ?zzm4 ?zzm5 ?zzm6 ?zzm7 ?zzm8 ?zzm9 ?zzm10 ?zzm11 ?zzm12 ?zzm13 ?zzm14 ?zzm15 ?zzm16 ?zzm17 ?zzm18 ?zzm19 ?zzm20 ?zzm21 ?zzm22 ?zzm23 ?zzm24 ?zzhZ ?zzhF0 ?zzhF1 ?zzhG0 ?zzhG1 ?zzlF0 ?zzlF1 ?zzlG0 ?zzlG1 ?zzsF0 ?zzsF1 ?zzsG0 ?zzsG1 ?zzd1 ?zzd2 ?_; (case zzk1 => k_asm); (case zzk2 => k_asm); (case zzk3 => k_asm); (case zzk4 => k_asm); (case zzk5 => k_asm); (case zzk6 => first | exact rfl | assumption); (case zzu1 => k_updF); (case zzu2 => (intro o9; (try dsimp only); k_updF)); (case zzt1 => first | assumption | exact True.intro); (case zzt2 => first | assumption | exact True.intro); (case zzm0 => walk_at "mm"); (case zzm1 => walk_at "mm"); (case zzm2 => walk_at "mm"); (case zzm3 => walk_at "mm"); (case zzm4 => walk_at "mm"); (case zzm5 => walk_at "mm"); (case zzm6 => walk_at "mm"); (case zzm7 => walk_at "mm"); (case zzm8 => walk_at "mm"); (case zzm9 => walk_at "mm"); (case zzm10 => walk_at "mm"); (case zzm11 => walk_at "mm"); (case zzm12 => walk_at "mm"); (case zzm13 => walk_at "mm"); (case zzm14 => walk_at "mm"); (case zzm15 => walk_at "mm"); (case zzm16 => walk_at "mm"); (case zzm17 => walk_at "mm"); (case zzm18 => walk_at "mm"); (case zzm19 => walk_at "mm"); (case zzm20 => walk_at "mm"); (case zzm21 => walk_at "mm"); (case zzm22 => walk_at "mm"); (case zzm23 => walk_at "mm"); (case zzm24 => walk_at "mm"); (case zzhZ => assumption); (case zzhF0 => assumption); (case zzhF1 => assumption); (case zzhG0 => assumption); (case zzhG1 => assumption); (case zzlF0 => first | assumption | exact (show Row256 _ from by assumption).1); (case zzlF1 => first | assumption | exact (show Row256 _ from by assumption).1); (case zzlG0 => first | assumption | exact (show Row256 _ from by assumption).1); (case zzlG1 => first | assumption | exact (show Row256 _ from by assumption).1); (case zzsF0 => first | assumption | exact small_of (show Row256 _ from by assumption).2); (case zzsF1 => first | assumption | exact small_of (show Row256 _ from by assumption).2); (case zzsG0 => first | assumption | exact small_of (show Row256 _ from by assumption).2); (case zzsG1 => first | assumption | exact small_of (show Row256 _ from by assumption).2); (case zzd1 => ktr_room); (case zzd2 => first | assumption | decide); k_whole); (intro y9 dy9 c9 w9 z9 its9 kk9 h9 tk9 gs9 ps9 qs9 ht9 hq9 hI9 F9 N9 g5 g6 g7 hb9); (try dsimp only at N9); (try dsimp only at g5); (try dsimp only at g6); (try dsimp only at g7))) | (with_reducible (k_here; (with_reducible show wpAny _ _ (call (Value.ref 323) _) _ _ _); k_dflt (refine' matmul_use ?zzk1 ?zzk2 ?zzk3 ?zzk4 ?zzk5 ?zzk6 ?zzu1 ?zzu2 ?zzt1 ?zzt2 ?zzm0 ?zzm1 ?zzm2 ?zzm3 ?zzm4 ?zzm5 ?zzm6 ?zzm7 ?zzm8 ?zzm9 ?zzm10 ?zzm11 ?zzm12 ?zzm13 ?zzm14 ?zzm15 ?zzm16 ?zzm17 ?zzm18 ?zzm19 ?zzm20 ?zzm21 ?zzm22 ?zzm23 ?zzm24 ?zzhZ ?zzhF0 ?zzhF1 ?zzhG0 ?zzhG1 ?zzlF0 ?zzlF1 ?zzlG0 ?zzlG1 ?zzsF0 ?zzsF1 ?zzsG0 ?zzsG1 ?zzd1 ?zzd2 ?_; (case zzk1 => k_asm); (case zzk2 => k_asm); (case zzk3 => k_asm); (case zzk4 => k_asm); (case zzk5 => k_asm); (case zzk6 => first | exact rfl | assumption); (case zzu1 => k_updF); (case zzu2 => (intro o9; (try dsimp only); k_updF)); (case zzt1 => first | assumption | exact True.intro); (case zzt2 => first | assumption | exact True.intro); (case zzm0 => walk_at "mm"); (case zzm1 => walk_at "mm"); (case zzm2 => walk_at "mm"); (case zzm3 => walk_at "mm"); (case zzm4 => walk_at "mm"); (case zzm5 => walk_at "mm"); (case zzm6 => walk_at "mm"); (case zzm7 => walk_at "mm"); (case zzm8 => walk_at "mm"); (case zzm9 => walk_at "mm"); (case zzm10 => walk_at "mm"); (case zzm11 => walk_at "mm"); (case zzm12 => walk_at "mm"); (case zzm13 => walk_at "mm"); (case zzm14 => walk_at "mm"); (case zzm15 => walk_at "mm"); (case zzm16 => walk_at "mm"); (case zzm17 => walk_at "mm"); (case zzm18 => walk_at "mm"); (case zzm19 => walk_at "mm"); (case zzm20 => walk_at "mm"); (case zzm21 => walk_at "mm"); (case zzm22 => walk_at "mm"); (case zzm23 => walk_at "mm"); (case zzm24 => walk_at "mm"); (case zzhZ => assumption); (case zzhF0 => assumption); (case zzhF1 => assumption); (case zzhG0 => assumption); (case zzhG1 => assumption); (case zzlF0 => first | assumption | exact (show Row256 _ from by assumption).1); (case zzlF1 => first | assumption | exact (show Row256 _ from by assumption).1); (case zzlG0 => first | assumption | exact (show Row256 _ from by assumption).1); (case zzlG1 => first | assumption | exact (show Row256 _ from by assumption).1); (case zzsF0 => first | assumption | exact small_of (show Row256 _ from by assumption).2); (case zzsF1 => first | assumption | exact small_of (show Row256 _ from by assumption).2); (case zzsG0 => first | assumption | exact small_of (show Row256 _ from by assumption).2); (case zzsG1 => first | assumption | exact small_of (show Row256 _ from by assumption).2); (case zzd1 => ktr_room); (case zzd2 => first | assumption | decide); k_whole); (intro x9 dx9 D9 a9 y9 dy9 c9 t9 u9 v9 kd9 ka9 w9 z9 its9 kk9 h9 tk9 gs9 ps9 qs9 ht9 hq9 hI9 F9 N9 g1 g2 g3 g4 g5 g6 g7 hb9); (try dsimp only at N9); (try dsimp only at g1); (try dsimp only at g2); (try dsimp only at g3); (try dsimp only at g4); (try dsimp only at g5); (try dsimp only at g6); (try dsimp only at g7))) | (with_reducible (k_here; (with_reducible show wpAny _ _ (call (Value.ref _) [Value.ref _, Value.bool _]) _ _ _); k_dflt (refine' mod_two ?zzk1 ?zzk2 ?zzk3 ?zzk4 ?zzk5 ?zzk6 ?zzu1 ?zzt1 ?zzm1 ?zzm2 ?zzm3 ?zzm4 ?zzm5 ?zzm6 ?zzd1 ?_; (case zzk1 => k_asm); (case zzk2 => k_asm); (case zzk3 => k_asm); (case zzk4 => k_asm); (case zzk5 => k_asm); (case zzk6 => first | exact rfl | assumption); (case zzu1 => k_updF); (case zzt1 => first | assumption | exact True.intro); (case zzm1 => walk_at "mm"); (case zzm2 => walk_at "mm"); (case zzm3 => walk_at "mm"); (case zzm4 => walk_at "mm"); (case zzm5 => walk_at "mm"); (case zzm6 => walk_at "mm"); (case zzd1 => ktr_room); k_whole); (intro x9 dx9 t9 u9 v9 h9 tk9 gs9 ps9 ht9 g9 gg9 F9 N9 k9 hb9; clear k9); (try dsimp only at g9); (try dsimp only at gg9); (try dsimp only at N9))) | (with_reducible (k_here; (with_reducible show wpAny _ _ (call (Value.ref 662) _ _) _ _ _); (k_dflt (show wpAny _ _ (call (Value.ref 662) [Value.ref _, Value.ref _] [(Str.ofString "transpose", Value.bool _)]) _ _ _)); k_dflt (refine' mat_use ?zzk1 ?zzk2 ?zzk3 ?zzk4 ?zzk5 ?zzk6 ?zzm1 ?zzm2 ?zzm3 ?zzm4 ?zzz1 ?zzd1 ?_; (case zzk1 => k_asm); (case zzk2 => k_asm); (case zzk3 => k_asm); (case zzk4 => k_asm); (case zzk5 => k_asm); (case zzk6 => first | exact rfl | assumption); (case zzm1 => walk_at "mm"); (case zzm2 => walk_at "mm"); (case zzm3 => walk_at "mm"); (case zzm4 => walk_at "mm"); (case zzz1 => first | assumption | exact (show (2 : Nat) < 8 from by decide) | exact (show (1 : Nat) < 8 from by decide)); (case zzd1 => ktr_room); k_whole); (intro x9 dx9 t9 u9 v9 h9 tk9 g9 gg9 F9 N9 k9; clear k9); (try k_sweep))) | (with_reducible (k_here; (first | (with_reducible show wpAny _ _ (call (Value.ref _) [Value.ref _] (List.zip _ _)) _ _ _) | (with_reducible show wpAny _ _ (call (Value.ref _) [Value.ref _] [(_, Value.bool true)]) _ _ _) | (with_reducible show wpAny _ _ (call (Value.ref _) ([] ++ [Value.ref _]) (List.zip _ _)) _ _ _)); (k_dflt (show wpAny _ _ (call (Value.ref _) [Value.ref _] [(Str.ofString "is_ntt", Value.bool true)]) _ _ _)); k_dflt (refine' mk_use ?zzk1 ?zzk2 ?zzk3 ?zzk4 ?zzk5 ?zzk6 ?zzm1 ?zzm2 ?zzm3 ?zzi1 ?zzn1 ?zzd1 ?_; (case zzk1 => k_asm); (case zzk2 => k_asm); (case zzk3 => k_asm); (case zzk4 => k_asm); (case zzk5 => k_asm); (case zzk6 => first | exact rfl | assumption); (case zzm1 => walk_at "mm"); (case zzm2 => walk_at "mm"); (case zzm3 => walk_at "mm"); (case zzi1 => assumption); (case zzn1 => first | assumption | exact mulP_len _ _ _ | exact (show Row256 _ from by assumption).1); (case zzd1 => ktr_room); k_whole); (intro x9 dx9 u9 v9 h9 tk9 g9 gg9 F9 N9 k9; clear k9); (try k_sweep))) | (with_reducible (k_here; (with_reducible show wpAny _ _ (call (Value.ref 694) _) _ _ _); k_dflt (refine' root_con ?zzk1 ?zzk2 ?zzk3 ?zzk5 ?zzk6 _ _ ?zzi1 ?zzi2 ?zzd1 ?_; (case zzk1 => k_asm); (case zzk2 => k_asm); (case zzk3 => k_asm); (case zzk5 => k_asm); (case zzk6 => first | exact rfl | assumption); (case zzi1 => omega); (case zzi2 => omega); (case zzd1 => ktr_room); k_whole); (intro t9 h9 tk9 k9; have F9 := Fr.stays (by assumption) k9; have N9 := News.stays (by assumption) k9; clear k9))) | (with_reducible (k_here; (with_reducible show wpAny _ _ (call (Value.ref 687) _) _ _ _); k_dflt (refine' take_use ?zzk1 ?zzk2 ?zzk3 ?zzk4 ?zzk5 ?zzk6 ?zzu1 ?zzu2 ?zzi1 ?zzi2 ?zzi3 ?zzi4 ?zzi5 ?zzi6 ?zzi7 ?zzi8 ?zzi9 ?zzd1 ?_; (case zzk1 => k_asm); (case zzk2 => k_asm); (case zzk3 => k_asm); (case zzk4 => k_asm); (case zzk5 => k_asm); (case zzk6 => first | exact rfl | assumption); (case zzu1 => k_updF); (case zzu2 => (intro o9; (try dsimp only); k_updF)); (case zzi1 => assumption); (case zzi2 => assumption); (case zzi3 => omega); (case zzi4 => omega); (case zzi5 => omega); (case zzi6 => omega); (case zzi7 => omega); (case zzi8 => omega); (case zzi9 => k_ne); (case zzd1 => ktr_room); k_whole); (intro r9 t9 n9 tn9 vs9 ns9 h9 tk9 ra9 rb9 na9 nb9 hi9 hl9 hp9 F9 N9); (try dsimp only at N9); (try k_sweep))) | (with_reducible (k_here; (with_reducible show wpAny _ _ (call (Value.ref 699) _) _ _ _); k_dflt (refine' full_use ?zzk1 ?zzk2 ?zzk3 ?zzk4 ?zzk5 ?zzk6 ?zzu1 ?zzu2 ?zzi1 ?zzi2 ?zzi3 ?zzi4 ?zzi5 ?zzi6 ?zzi9 ?zzd1 ?_; (case zzk1 => k_asm); (case zzk2 => k_asm); (case zzk3 => k_asm); (case zzk4 => k_asm); (case zzk5 => k_asm); (case zzk6 => first | exact rfl | assumption); (case zzu1 => k_updF); (case zzu2 => (intro o9; (try dsimp only); k_updF)); (case zzi1 => assumption); (case zzi2 => assumption); (case zzi3 => omega); (case zzi4 => omega); (case zzi5 => omega); (case zzi6 => omega); (case zzi9 => k_ne); (case zzd1 => ktr_room); k_whole); (intro r9 ys9 c9 kk9 n9 tn9 vs9 ns9 h9 tk9 ya9 ro9 na9 nb9 hi9 hl9 hp9 F9 N9 g9); (try dsimp only at N9); (try dsimp only at g9))) | (with_reducible (k_here; (with_reducible show wpAny _ _ (call (Value.ref 437) _) _ _ _); k_dflt (refine' ring_use ?zzk1 ?zzk2 ?zzk3 ?zzk4 ?zzk5 ?zzk6 ?zzd1 ?_; (case zzk1 => k_asm); (case zzk2 => k_asm); (case zzk3 => k_asm); (case zzk4 => k_asm); (case zzk5 => k_asm); (case zzk6 => first | exact rfl | assumption); (case zzd1 => ktr_room); k_whole); (intro x9 dx9 z9 zs9 kz9 a9 b9 c9 d9 e9 f9 g9 h9 tk9 i9 l9 ll9 n9 F9 N9; (try dsimp only at l9); (try k_lt l9); (try k_lt2 ll9)))) | (with_reducible (k_here; (with_reducible show wpAny _ _ (call (Value.ref 680) _) _ _ _); k_dflt (refine' state_use ?zzk1 ?zzk2 ?zzk3 ?zzk4 ?zzk5 ?zzk6 ?zzl1 ?zzl2 ?zzl3 ?zzd1 ?_; (case zzk1 => k_asm); (case zzk2 => k_asm); (case zzk3 => k_asm); (case zzk4 => k_asm); (case zzk5 => k_asm); (case zzk6 => first | exact rfl | assumption); (case zzl1 => assumption); (case zzl2 => assumption); (case zzl3 => assumption); (case zzd1 => ktr_room); k_whole); (intro st9 ce9 vs9 ns9 t9 k19 k29 h9 tk9 i9 p9 q9 z9 n9 g9 gg9 F9 N9)))) | ((with_reducible show wpAny _ _ (compareOp _ (Value.ref _) (Value.ref _)) _ _ _); (with_reducible (k_here; (with_reducible show wpAny _ _ (compareOp CmpOp.Eq (Value.ref _) (Value.ref _)) _ _ _); k_dflt (refine' eq_same ?zzN ?zzm1 ?zzm2 ?zzhi ?zzhj ?zzhu ?_; (case zzN => k_asm); (case zzm1 => k_mem); (case zzm2 => k_mem); (case zzhi => assumption); (case zzhj => assumption); (case zzhu => units_room); k_whole)))) | ((with_reducible show wpAny _ _ (compareOp _ (Value.ref _) (Value.ref _)) _ _ _); (with_reducible (k_here; (with_reducible show wpAny _ _ (compareOp CmpOp.NotEq (Value.ref _) (Value.ref _)) _ _ _); k_dflt (refine' ne_pair ?zzN ?zzm1 ?zzm2 ?zzex ?zzey ?zzhu ?_; (case zzN => k_asm); (case zzm1 => k_mem); (case zzm2 => k_mem); (case zzex => exact told_first _ _ _ _ (by assumption) (by assumption)); (case zzey => exact told_second _ _ _ _ (by assumption) (by assumption)); (case zzhu => units_room); k_whole)))) | ((with_reducible show wpAny _ _ (subscriptTail _ _ _ _) _ _ _); (with_reducible (k_here; (with_reducible show wpAny _ _ (subscriptTail _ _ (Value.ref _) (Value.int _ _)) _ _ _); k_dflt (refine' item_lit ?zzk1 ?zzk2 ?zzk3 ?zzk4 ?zzk5 ?_ ?zzk6; (case zzk1 => k_asm); (case zzk2 => first | k_mem | (repeat (first | with_reducible assumption | with_reducible refine List.mem_cons_of_mem _ ?_))); (case zzk3 => decide); (case zzk4 => exact rfl); (case zzk5 => first | exact (show (4 : Nat) < 8 from by decide) | exact (show (2 : Nat) < 8 from by decide)); (case zzk6 => with_unfolding_all rfl); k_whole)))) | ((with_reducible show wpAny _ _ (subscriptTail _ _ _ _) _ _ _); (with_reducible (k_here; (with_reducible show wpAny _ _ (subscriptTail (PySem.Expr.Subscript _ _ _) (PySem.Expr.Slice _ _ none _) (Value.ref _) (Value.ref _)) _ _ _); k_dflt (refine kba_turn (value' := PySem.Expr.Name (PySem.Str.ofString "_") ⟨0, 0, 0, 0⟩) (fun _ => rfl) ?_)))) | ((with_reducible show wpAny _ _ (subscriptTail _ _ _ _) _ _ _); (with_reducible (k_here; (with_reducible show wpAny _ _ (subscriptTail _ (PySem.Expr.Slice _ _ none _) (Value.ref _) (Value.ref _)) _ _ _); k_dflt (refine' slice_pair ?zzF ?zzN ?zzm ?zzi ?zzl ?zzh0 ?zzh1 ?zzh2 ?_ ?zzs ?zzt; (case zzF => k_asm); (case zzN => k_asm); (case zzm => first | k_mem | (repeat (first | with_reducible assumption | with_reducible refine List.mem_cons_of_mem _ ?_))); (case zzi => assumption); (case zzl => first | assumption | exact (show Row256 _ from by assumption).1 | exact addP_len _ _); (case zzh0 => omega); (case zzh1 => omega); (case zzh2 => omega); (case zzs => with_unfolding_all rfl); (case zzt => kmk_pure)); intro D9 u9 v9 h9 F9 N9 l9; (try dsimp only at l9); (try k_lt l9)))) | ((with_reducible show wpAny _ _ (getMethod (Value.ref _) _ _) _ _ _); (with_reducible (k_here; (first | (with_reducible show wpAny _ _ (getMethod (Value.ref _) (PySem.Str.ofString "ring") _) _ _ _) | (with_reducible show wpAny _ _ (getMethod (Value.ref _) (PySem.Str.ofString "parent") _) _ _ _)); k_dflt (refine' kmu_own ?zzk1 ?zzk2 ?zzk3 ?zzk4 ?zzk5 ?_; (case zzk1 => k_asm); (case zzk2 => k_asm); (case zzk3 => k_inst); (case zzk4 => k_is); (case zzk5 => k_is); k_whole)))) | ((with_reducible show wpAny _ _ (getAttr (Value.ref _) _ _) _ _ _); (with_reducible (k_here; k_dflt (refine' get_own ?zzk1 ?zzk2 ?zzk3 ?zzk4 ?zzk5 ?zzk6 ?zzk7 ?zzk8 ?zzk9 ?_; (case zzk1 => k_asm); (case zzk2 => k_asm); (case zzk3 => k_inst); (case zzk4 => k_is); (case zzk5 => k_is); (case zzk6 => k_is); (case zzk7 => k_is); (case zzk8 => k_get); (case zzk9 => k_handed); k_whole)))) | ((with_reducible show wpAny _ _ (call (Value.type "list") _ _) _ _ _); (with_reducible (k_here; (with_reducible show wpAny _ _ (call (Value.type "list") [Value.ref _]) _ _ _); k_dflt (refine' listcopy_use ?zzk1 ?zzk2 ?zzm1 ?zzi1 ?zzr1 ?_; (case zzk1 => k_asm); (case zzk2 => k_asm); (case zzm1 => k_mem); (case zzi1 => assumption); (case zzr1 => assumption); k_whole); (intro D9 c9 h9 F9 N9 l9; (try dsimp only at l9); (try k_lt l9))))) | ((with_reducible show wpAny _ _ (exec (Stmt.Assign _ _ _) _) _ _ _); (with_reducible (k_here; k_dflt (refine LCg.Assign_ListComp_U (F₀ := by k_asm) (by rfl) (by with_unfolding_all rfl) (by rfl) (by decide) (by rfl) (by decide) (by rfl) (by rfl) (by rfl) ?_)))) | ((with_reducible show wpAny _ _ (binaryOp _ (Value.ref _) (Value.ref _)) _ _ _); (with_reducible (k_here; (with_reducible show wpAny _ _ (binaryOp _ (Value.ref _) (Value.ref _)) _ _ _); k_dflt (refine' binop_K ?zzk1 ?zzk2 ?zzk3 ?zzk4 ?zzk5 ?zzk6 ?zzk7 ?_; (case zzk1 => k_asm); (case zzk2 => k_asm); (case zzk3 => k_inst); (case zzk4 => k_typeOf); (case zzk5 => k_is); (case zzk6 => k_is); (case zzk7 => k_is); k_whole)))) | ((with_reducible show wpAny _ _ (callWith _ (Value.ref _) _ _ _) _ _ _); (with_reducible (k_here; k_dflt (refine' callWith_ownKW ?zzk1 ?zzk2 ?zzk3 ?zzk4 ?zzk5 ?_; (case zzk1 => k_in); (case zzk2 => k_inst); (case zzk3 => rfl); (case zzk4 => k_is); (case zzk5 => exact rfl); k_whole)))) | ((with_reducible show wpAny _ _ (setItem (Value.ref _) (Value.int _ _) _) _ _ _); (with_reducible (k_here; (with_reducible show wpAny _ _ (setItem (Value.ref _) (Value.int _ _) _) _ _ _); k_dflt (refine' set_here ?zzk1 ?zzk2 ?zzk3 ?zzk4 ?zzk5 ?zzk6 ?zzk7 ?_; (case zzk1 => k_asm); (case zzk2 => k_asm); (case zzk3 => k_upd); (case zzk4 => decide); (case zzk5 => simp; done); (case zzk6 => decide); (case zzk7 => exact rfl); k_whole); intro h' F' N'; (simp only [List.setIfInBounds_toArray, Int.toNat_zero, Int.reduceToNat, List.set_cons_zero, List.set_cons_succ] at N'); (try k_sweep)))) | ((with_reducible show wpAny _ _ (getMethod (Value.ref _) _ _) _ _ _); (with_reducible (k_here; k_dflt (first | (refine' method_inst ?zzk1 ?zzk2 ?zzk3 ?zzk4 ?zzk5 ?zzk6 ?zzk7 ?_; (case zzk1 => k_asm); (case zzk2 => k_asm); (case zzk3 => k_inst); (case zzk4 => k_is); (case zzk5 => k_is); (case zzk6 => k_is); (case zzk7 => k_get); k_whole) | (refine' kmu_own ?zzk1 ?zzk2 ?zzk3 ?zzk4 ?zzk5 ?_; (case zzk1 => k_asm); (case zzk2 => k_asm); (case zzk3 => k_inst); (case zzk4 => k_is); (case zzk5 => k_is); k_whole) | (refine' kmu_sm ?zzk1 ?zzk2 ?zzk4 ?zzk5 ?zzk6 ?zzk7 ?zzk8 ?zzk9 ?zzk10 ?zzk11 ?zzk12 ?zzk13 ?zzk14 ?_; (case zzk1 => k_asm); (case zzk2 => k_asm); (case zzk4 => k_inst); (case zzk5 => k_is); (case zzk6 => k_is); (case zzk7 => k_is); (case zzk8 => k_is); (case zzk9 => k_is); (case zzk10 => k_is); (case zzk11 => decide +kernel); (case zzk12 => k_get); (case zzk13 => k_is); (case zzk14 => k_handed); k_whole))))) | walk1 | dsimp only))
  rename_i hs hlay0 hL hr hl2 hL_1 ra w1 r0 hI hr_1 hcond' hcond'_1 h₁ tk₁ X' K' lifted_1 codeHd_1 X0 gk' l0 qk_1 ek_1 vs9_1 ns9_1 h9_1 tk9_1 i9_1 z9_1 n9_1 g9_1 h'_1 o' d' x' d'_1 h'_2 gk'_1 l1 l2 g' L' h'_3 B' X'_1 T' qk_2 ek_2 tk_2 c9_1 g9_2 h9_2 tk9_2 n9_2 gk'_2 h'_4 F' N' Tc' kX h'_5 o'_1 F'_1 N'_1 d'_2 g'_1 I' oI' C' oC' D' m' h'_6 tk' E' hC' F'_2 N'_2 t9' hx' og1' og2' og3' cE' qk_3 ek_3 r9_1 ys9_1 c9_2 kk9_1 n9_3 tn9_1 vs9_2 ns9_2 h9_3 tk9_3 ya9_1 ro9_1 na9_1 nb9_1 hi9_1 hl9_1 hp9_1 F9_1 N9_1 g9_3 I'_1 oI'_1 C'_1 oC'_1 D'_1 m'_1 h'_7 tk'_1 E'_1 hC'_1 F'_3 N'_3 t9'_1 hx'_1 og1'_1 og2'_1 og3'_1 cE'_1 qk_4 ek_4 r9_2 ys9_2 c9_3 kk9_2 n9_4 tn9_2 vs9_3 ns9_3 h9_4 tk9_4 ya9_2 ro9_2 na9_2 nb9_2 hi9_2 hl9_2 hp9_2 F9_2 N9_2 g9_4 I'_2 oI'_2 C'_2 oC'_2 D'_2 m'_2 h'_8 tk'_2 E'_2 hC'_2 F'_4 N'_4 t9'_2 hx'_2 og1'_2 og2'_2 og3'_2 cE'_2 qk_5 ek_5 r9_3 ys9_3 c9_4 kk9_3 n9_5 tn9_3 vs9_4 ns9_4 h9_5 tk9_5 ya9_3 ro9_3 na9_3 nb9_3 hi9_3 hl9_3 hp9_3 F9_3 N9_3 g9_5 I'_3 oI'_3 C'_3 oC'_3 D'_3 m'_3 h'_9 tk'_3 E'_3 hC'_3 F'_5 N'_5 t9'_3 hx'_3 og1'_3 og2'_3 og3'_3 cE'_3 D'_4 h'_10 tk'_4 F'_6 N'_6 og'
  clear tk9 ek qk cE'_3 og3'_3 og2'_3 og1'_3 hx'_3 t9'_3 hC'_3 E'_3 tk'_3 m'_3 tk9_5 ek_5 qk_5 cE'_2 og3'_2 og2'_2 og1'_2 hx'_2 t9'_2 hC'_2 E'_2 tk'_2 m'_2 tk9_4 ek_4 qk_4 cE'_1 og3'_1 og2'_1 og1'_1 hx'_1 t9'_1 hC'_1 E'_1 tk'_1 m'_1 tk9_3 ek_3 qk_3 cE' og3' og2' og1' hx' t9' hC' E' tk' m' g'_1 a v₁ u₁ t₁ tk_1 ek_2 qk_2 lifted h'_2 h'_1 tk9_1 h9_1 l0 gk' X0 codeHd codeHd_1 lifted_1 tk₁ h₁ hr_1 r0 w1 ra hL_1 w_8 w_5 w_4 hT9 o s₀
  exact by
    w_top off
    repeat' ((fail_if_success (with_reducible show wpAny _ _ (exec (Stmt.Assign [PySem.Expr.Tuple _ _ _] _ _) _) _ _ _)); (first | ((with_reducible refine qb1 ?_); (try dsimp only)) | ((with_reducible refine qb2 ?_); (try dsimp only)) | ((with_reducible refine qa1 ?_); (try dsimp only)) | ((with_reducible refine qa2 ?_); (try dsimp only [List.cons_append, List.nil_append])) | ((with_reducible refine qs1 ?_); (try dsimp only)) | ((with_reducible refine qs2 ?_); (try dsimp only)) | (with_reducible refine qs3 ?_) | (with_reducible refine qs4 ?_) | ((with_reducible refine qc1 ?_); (try dsimp only)) | ((with_reducible refine qu1 ?_); (try dsimp only)) | (with_reducible refine qu2 ?_) | ((with_reducible refine qg1 ?_); (try dsimp only)) | (with_reducible refine qg2 ?_) | ((with_reducible refine qt1 ?_); (try dsimp only)) | ((with_reducible refine qr1 ?_); (try dsimp only)) | (with_reducible refine qb0 ?_) | (with_reducible refine qu0 ?_) | ((with_reducible show wpAny _ _ (spliced (backTo _ (starEach (_ :: _) _))) _ _ _); k_dflt (refine qa0 ?_)) | ((with_reducible show wpAny _ _ (execs (_ :: _) _) _ _ _); first | (k_here; k_gentoks) | (with_reducible refine qs0 ?_)) | ((with_reducible show wpAny _ _ (eval (PySem.Expr.Call (PySem.Expr.Name _ _) _ [] _) _) _ _ _); (fail_if_success (with_reducible show wpAny _ _ (eval _ (compEnvC _ _ _ _)) _ _ _)); k_dflt (refine qc0 ?_)) | ((with_reducible show wpAny _ _ (exec (Stmt.Assign [PySem.Expr.Name _ _] _ _) _) _ _ _); (fail_if_success (with_reducible show wpAny _ _ (exec (Stmt.Assign _ (PySem.Expr.ListComp _ _ _ _) _) _) _ _ _)); k_dflt (refine qg0 ?_)) | ((with_reducible show wpAny _ _ (eval (PySem.Expr.Attribute (PySem.Expr.Name _ _) _ _) _) _ _ _); k_dflt (refine qt0 ?_)) | (with_reducible refine qr0 ?_) | ((with_reducible show wpAny _ _ (call (Value.ref _) _ _) _ _ _); first | (with_reducible (k_here; (with_reducible show wpAny _ _ (call (Value.ref 330) _) _ _ _); k_dflt (refine' dot_use ?zzk1 ?zzk2 ?zzk3 ?zzk4 ?zzk5 ?zzk6 ?zzu1 ?zzu2 ?zzt1 ?zzt2 ?zzm0 ?zzm1 ?zzm2 ?zzm3 ?zzm4 ?zzm5 ?zzm6 ?zzm7 ?zzm8 ?zzm9 ?zzm10 ?zzm11 ?zzm12 ?zzm13 ?zzm14 ?zzm15 ?zzm16 ?zzm17 ?zzm18 ?zzm19 ?zzm20 ?zzm21 ?zzm22 ?zzm23 ?zzm24 ?zzhZ ?zzhF0 ?zzhF1 ?zzhG0 ?zzhG1 ?zzlF0 ?zzlF1 ?zzlG0 ?zzlG1 ?zzsF0 ?zzsF1 ?zzsG0 ?zzsG1 ?zzd1 ?zzd2 ?_; (case zzk1 => k_asm); (case zzk2 => k_asm); (case zzk3 => k_asm); (case zzk4 => k_asm); (case zzk5 => k_asm); (case zzk6 => first | exact rfl | assumption); (case zzu1 => k_updF); (case zzu2 => (intro o9; (try dsimp only); k_updF)); (case zzt1 => first | assumption | exact True.intro); (case zzt2 => first | assumption | exact True.intro); (case zzm0 => walk_at "mm"); (case zzm1 => walk_at "mm"); (case zzm2 => walk_at "mm"); (case zzm3 => walk_at "mm"); (case zzm4 => walk_at "mm"); (case zzm5 => walk_at "mm"); (case zzm6 => walk_at "mm"); (case zzm7 => walk_at "mm"); (case zzm8 => walk_at "mm"); (case zzm9 => walk_at "mm"); (case zzm10 => walk_at "mm"); (case zzm11 => walk_at "mm"); (case zzm12 => walk_at "mm"); (case zzm13 => walk_at "mm"); (case zzm14 => walk_at "mm"); (case zzm15 => walk_at "mm"); (case zzm16 => walk_at "mm"); (case zzm17 => walk_at "mm"); (case zzm18 => walk_at "mm"); (case zzm19 => walk_at "mm"); (case zzm20 => walk_at "mm"); (case zzm21 => walk_at "mm"); (case zzm22 => walk_at "mm"); (case zzm23 => walk_at "mm"); (case zzm24 => walk_at "mm"); (case zzhZ => assumption); (case zzhF0 => assumption); (case zzhF1 => assumption); (case zzhG0 => assumption); (case zzhG1 => assumption); (case zzlF0 => first | assumption | exact (show Row256 _ from by assumption).1); (case zzlF1 => first | assumption | exact (show Row256 _ from by assumption).1); (case zzlG0 => first | assumption | exact (show Row256 _ from by assumption).1); (case zzlG1 => first | assumption | exact (show Row256 _ from by assumption).1); (case zzsF0 => first | assumption | exact small_of (show Row256 _ from by assumption).2); (case zzsF1 => first | assumption | exact small_of (show Row256 _ from by assumption).2); (case zzsG0 => first | assumption | exact small_of (show Row256 _ from by assumption).2); (case zzsG1 => first | assumption | exact small_of (show Row256 _ from by assumption).2); (case zzd1 => ktr_room); (case zzd2 => first | assumption | decide); k_whole); (intro y9 dy9 c9 w9 z9 its9 kk9 h9 tk9 gs9 ps9 qs9 ht9 hq9 hI9 F9 N9 g5 g6 g7 hb9); (try dsimp only at N9); (try dsimp only at g5); (try dsimp only at g6); (try dsimp only at g7))) | (with_reducible (k_here; (with_reducible show wpAny _ _ (call (Value.ref 323) _) _ _ _); k_dflt (refine' matmul_use ?zzk1 ?zzk2 ?zzk3 ?zzk4 ?zzk5 ?zzk6 ?zzu1 ?zzu2 ?zzt1 ?zzt2 ?zzm0 ?zzm1 ?zzm2 ?zzm3 ?zzm4 ?zzm5 ?zzm6 ?zzm7 ?zzm8 ?zzm9 ?zzm10 ?zzm11 ?zzm12 ?zzm13 ?zzm14 ?zzm15 ?zzm16 ?zzm17 ?zzm18 ?zzm19 ?zzm20 ?zzm21 ?zzm22 ?zzm23 ?zzm24 ?zzhZ ?zzhF0 ?zzhF1 ?zzhG0 ?zzhG1 ?zzlF0 ?zzlF1 ?zzlG0 ?zzlG1 ?zzsF0 ?zzsF1 ?zzsG0 ?zzsG1 ?zzd1 ?zzd2 ?_; (case zzk1 => k_asm); (case zzk2 => k_asm); (case zzk3 => k_asm); (case zzk4 => k_asm); (case zzk5 => k_asm); (case zzk6 => first | exact rfl | assumption); (case zzu1 => k_updF); (case zzu2 => (intro o9; (try dsimp only); k_updF)); (case zzt1 => first | assumption | exact True.intro); (case zzt2 => first | assumption | exact True.intro); (case zzm0 => walk_at "mm"); (case zzm1 => walk_at "mm"); (case zzm2 => walk_at "mm"); (case zzm3 => walk_at "mm"); (case zzm4 => walk_at "mm"); (case zzm5 => walk_at "mm"); (case zzm6 => walk_at "mm"); (case zzm7 => walk_at "mm"); (case zzm8 => walk_at "mm"); (case zzm9 => walk_at "mm"); (case zzm10 => walk_at "mm"); (case zzm11 => walk_at "mm"); (case zzm12 => walk_at "mm"); (case zzm13 => walk_at "mm"); (case zzm14 => walk_at "mm"); (case zzm15 => walk_at "mm"); (case zzm16 => walk_at "mm"); (case zzm17 => walk_at "mm"); (case zzm18 => walk_at "mm"); (case zzm19 => walk_at "mm"); (case zzm20 => walk_at "mm"); (case zzm21 => walk_at "mm"); (case zzm22 => walk_at "mm"); (case zzm23 => walk_at "mm"); (case zzm24 => walk_at "mm"); (case zzhZ => assumption); (case zzhF0 => assumption); (case zzhF1 => assumption); (case zzhG0 => assumption); (case zzhG1 => assumption); (case zzlF0 => first | assumption | exact (show Row256 _ from by assumption).1); (case zzlF1 => first | assumption | exact (show Row256 _ from by assumption).1); (case zzlG0 => first | assumption | exact (show Row256 _ from by assumption).1); (case zzlG1 => first | assumption | exact (show Row256 _ from by assumption).1); (case zzsF0 => first | assumption | exact small_of (show Row256 _ from by assumption).2); (case zzsF1 => first | assumption | exact small_of (show Row256 _ from by assumption).2); (case zzsG0 => first | assumption | exact small_of (show Row256 _ from by assumption).2); (case zzsG1 => first | assumption | exact small_of (show Row256 _ from by assumption).2); (case zzd1 => ktr_room); (case zzd2 => first | assumption | decide); k_whole); (intro x9 dx9 D9 a9 y9 dy9 c9 t9 u9 v9 kd9 ka9 w9 z9 its9 kk9 h9 tk9 gs9 ps9 qs9 ht9 hq9 hI9 F9 N9 g1 g2 g3 g4 g5 g6 g7 hb9); (try dsimp only at N9); (try dsimp only at g1); (try dsimp only at g2); (try dsimp only at g3); (try dsimp only at g4); (try dsimp only at g5); (try dsimp only at g6); (try dsimp only at g7))) | (with_reducible (k_here; (with_reducible show wpAny _ _ (call (Value.ref _) [Value.ref _, Value.bool _]) _ _ _); k_dflt (refine' mod_two ?zzk1 ?zzk2 ?zzk3 ?zzk4 ?zzk5 ?zzk6 ?zzu1 ?zzt1 ?zzm1 ?zzm2 ?zzm3 ?zzm4 ?zzm5 ?zzm6 ?zzd1 ?_; (case zzk1 => k_asm); (case zzk2 => k_asm); (case zzk3 => k_asm); (case zzk4 => k_asm); (case zzk5 => k_asm); (case zzk6 => first | exact rfl | assumption); (case zzu1 => k_updF); (case zzt1 => first | assumption | exact True.intro); (case zzm1 => walk_at "mm"); (case zzm2 => walk_at "mm"); (case zzm3 => walk_at "mm"); (case zzm4 => walk_at "mm"); (case zzm5 => walk_at "mm"); (case zzm6 => walk_at "mm"); (case zzd1 => ktr_room); k_whole); (intro x9 dx9 t9 u9 v9 h9 tk9 gs9 ps9 ht9 g9 gg9 F9 N9 k9 hb9; clear k9); (try dsimp only at g9); (try dsimp only at gg9); (try dsimp only at N9))) | (with_reducible (k_here; (with_reducible show wpAny _ _ (call (Value.ref 662) _ _) _ _ _); (k_dflt (show wpAny _ _ (call (Value.ref 662) [Value.ref _, Value.ref _] [(Str.ofString "transpose", Value.bool _)]) _ _ _)); k_dflt (refine' mat_use ?zzk1 ?zzk2 ?zzk3 ?zzk4 ?zzk5 ?zzk6 ?zzm1 ?zzm2 ?zzm3 ?zzm4 ?zzz1 ?zzd1 ?_; (case zzk1 => k_asm); (case zzk2 => k_asm); (case zzk3 => k_asm); (case zzk4 => k_asm); (case zzk5 => k_asm); (case zzk6 => first | exact rfl | assumption); (case zzm1 => walk_at "mm"); (case zzm2 => walk_at "mm"); (case zzm3 => walk_at "mm"); (case zzm4 => walk_at "mm"); (case zzz1 => first | assumption | exact (show (2 : Nat) < 8 from by decide) | exact (show (1 : Nat) < 8 from by decide)); (case zzd1 => ktr_room); k_whole); (intro x9 dx9 t9 u9 v9 h9 tk9 g9 gg9 F9 N9 k9; clear k9); (try k_sweep))) | (with_reducible (k_here; (first | (with_reducible show wpAny _ _ (call (Value.ref _) [Value.ref _] (List.zip _ _)) _ _ _) | (with_reducible show wpAny _ _ (call (Value.ref _) [Value.ref _] [(_, Value.bool true)]) _ _ _) | (with_reducible show wpAny _ _ (call (Value.ref _) ([] ++ [Value.ref _]) (List.zip _ _)) _ _ _)); (k_dflt (show wpAny _ _ (call (Value.ref _) [Value.ref _] [(Str.ofString "is_ntt", Value.bool true)]) _ _ _)); k_dflt (refine' mk_use ?zzk1 ?zzk2 ?zzk3 ?zzk4 ?zzk5 ?zzk6 ?zzm1 ?zzm2 ?zzm3 ?zzi1 ?zzn1 ?zzd1 ?_; (case zzk1 => k_asm); (case zzk2 => k_asm); (case zzk3 => k_asm); (case zzk4 => k_asm); (case zzk5 => k_asm); (case zzk6 => first | exact rfl | assumption); (case zzm1 => walk_at "mm"); (case zzm2 => walk_at "mm"); (case zzm3 => walk_at "mm"); (case zzi1 => assumption); (case zzn1 => first | assumption | exact mulP_len _ _ _ | exact (show Row256 _ from by assumption).1); (case zzd1 => ktr_room); k_whole); (intro x9 dx9 u9 v9 h9 tk9 g9 gg9 F9 N9 k9; clear k9); (try k_sweep))) | (with_reducible (k_here; (with_reducible show wpAny _ _ (call (Value.ref 694) _) _ _ _); k_dflt (refine' root_con ?zzk1 ?zzk2 ?zzk3 ?zzk5 ?zzk6 _ _ ?zzi1 ?zzi2 ?zzd1 ?_; (case zzk1 => k_asm); (case zzk2 => k_asm); (case zzk3 => k_asm); (case zzk5 => k_asm); (case zzk6 => first | exact rfl | assumption); (case zzi1 => omega); (case zzi2 => omega); (case zzd1 => ktr_room); k_whole); (intro t9 h9 tk9 k9; have F9 := Fr.stays (by assumption) k9; have N9 := News.stays (by assumption) k9; clear k9))) | (with_reducible (k_here; (with_reducible show wpAny _ _ (call (Value.ref 687) _) _ _ _); k_dflt (refine' take_use ?zzk1 ?zzk2 ?zzk3 ?zzk4 ?zzk5 ?zzk6 ?zzu1 ?zzu2 ?zzi1 ?zzi2 ?zzi3 ?zzi4 ?zzi5 ?zzi6 ?zzi7 ?zzi8 ?zzi9 ?zzd1 ?_; (case zzk1 => k_asm); (case zzk2 => k_asm); (case zzk3 => k_asm); (case zzk4 => k_asm); (case zzk5 => k_asm); (case zzk6 => first | exact rfl | assumption); (case zzu1 => k_updF); (case zzu2 => (intro o9; (try dsimp only); k_updF)); (case zzi1 => assumption); (case zzi2 => assumption); (case zzi3 => omega); (case zzi4 => omega); (case zzi5 => omega); (case zzi6 => omega); (case zzi7 => omega); (case zzi8 => omega); (case zzi9 => k_ne); (case zzd1 => ktr_room); k_whole); (intro r9 t9 n9 tn9 vs9 ns9 h9 tk9 ra9 rb9 na9 nb9 hi9 hl9 hp9 F9 N9); (try dsimp only at N9); (try k_sweep))) | (with_reducible (k_here; (with_reducible show wpAny _ _ (call (Value.ref 699) _) _ _ _); k_dflt (refine' full_use ?zzk1 ?zzk2 ?zzk3 ?zzk4 ?zzk5 ?zzk6 ?zzu1 ?zzu2 ?zzi1 ?zzi2 ?zzi3 ?zzi4 ?zzi5 ?zzi6 ?zzi9 ?zzd1 ?_; (case zzk1 => k_asm); (case zzk2 => k_asm); (case zzk3 => k_asm); (case zzk4 => k_asm); (case zzk5 => k_asm); (case zzk6 => first | exact rfl | assumption); (case zzu1 => k_updF); (case zzu2 => (intro o9; (try dsimp only); k_updF)); (case zzi1 => assumption); (case zzi2 => assumption); (case zzi3 => omega); (case zzi4 => omega); (case zzi5 => omega); (case zzi6 => omega); (case zzi9 => k_ne); (case zzd1 => ktr_room); k_whole); (intro r9 ys9 c9 kk9 n9 tn9 vs9 ns9 h9 tk9 ya9 ro9 na9 nb9 hi9 hl9 hp9 F9 N9 g9); (try dsimp only at N9); (try dsimp only at g9))) | (with_reducible (k_here; (with_reducible show wpAny _ _ (call (Value.ref 437) _) _ _ _); k_dflt (refine' ring_use ?zzk1 ?zzk2 ?zzk3 ?zzk4 ?zzk5 ?zzk6 ?zzd1 ?_; (case zzk1 => k_asm); (case zzk2 => k_asm); (case zzk3 => k_asm); (case zzk4 => k_asm); (case zzk5 => k_asm); (case zzk6 => first | exact rfl | assumption); (case zzd1 => ktr_room); k_whole); (intro x9 dx9 z9 zs9 kz9 a9 b9 c9 d9 e9 f9 g9 h9 tk9 i9 l9 ll9 n9 F9 N9; (try dsimp only at l9); (try k_lt l9); (try k_lt2 ll9)))) | (with_reducible (k_here; (with_reducible show wpAny _ _ (call (Value.ref 680) _) _ _ _); k_dflt (refine' state_use ?zzk1 ?zzk2 ?zzk3 ?zzk4 ?zzk5 ?zzk6 ?zzl1 ?zzl2 ?zzl3 ?zzd1 ?_; (case zzk1 => k_asm); (case zzk2 => k_asm); (case zzk3 => k_asm); (case zzk4 => k_asm); (case zzk5 => k_asm); (case zzk6 => first | exact rfl | assumption); (case zzl1 => assumption); (case zzl2 => assumption); (case zzl3 => assumption); (case zzd1 => ktr_room); k_whole); (intro st9 ce9 vs9 ns9 t9 k19 k29 h9 tk9 i9 p9 q9 z9 n9 g9 gg9 F9 N9)))) | ((with_reducible show wpAny _ _ (compareOp _ (Value.ref _) (Value.ref _)) _ _ _); (with_reducible (k_here; (with_reducible show wpAny _ _ (compareOp CmpOp.Eq (Value.ref _) (Value.ref _)) _ _ _); k_dflt (refine' eq_same ?zzN ?zzm1 ?zzm2 ?zzhi ?zzhj ?zzhu ?_; (case zzN => k_asm); (case zzm1 => k_mem); (case zzm2 => k_mem); (case zzhi => assumption); (case zzhj => assumption); (case zzhu => units_room); k_whole)))) | ((with_reducible show wpAny _ _ (compareOp _ (Value.ref _) (Value.ref _)) _ _ _); (with_reducible (k_here; (with_reducible show wpAny _ _ (compareOp CmpOp.NotEq (Value.ref _) (Value.ref _)) _ _ _); k_dflt (refine' ne_pair ?zzN ?zzm1 ?zzm2 ?zzex ?zzey ?zzhu ?_; (case zzN => k_asm); (case zzm1 => k_mem); (case zzm2 => k_mem); (case zzex => exact told_first _ _ _ _ (by assumption) (by assumption)); (case zzey => exact told_second _ _ _ _ (by assumption) (by assumption)); (case zzhu => units_room); k_whole)))) | ((with_reducible show wpAny _ _ (subscriptTail _ _ _ _) _ _ _); (with_reducible (k_here; (with_reducible show wpAny _ _ (subscriptTail _ _ (Value.ref _) (Value.int _ _)) _ _ _); k_dflt (refine' item_lit ?zzk1 ?zzk2 ?zzk3 ?zzk4 ?zzk5 ?_ ?zzk6; (case zzk1 => k_asm); (case zzk2 => first | k_mem | (repeat (first | with_reducible assumption | with_reducible refine List.mem_cons_of_mem _ ?_))); (case zzk3 => decide); (case zzk4 => exact rfl); (case zzk5 => first | exact (show (4 : Nat) < 8 from by decide) | exact (show (2 : Nat) < 8 from by decide)); (case zzk6 => with_unfolding_all rfl); k_whole)))) | ((with_reducible show wpAny _ _ (subscriptTail _ _ _ _) _ _ _); (with_reducible (k_here; (with_reducible show wpAny _ _ (subscriptTail (PySem.Expr.Subscript _ _ _) (PySem.Expr.Slice _ _ none _) (Value.ref _) (Value.ref _)) _ _ _); k_dflt (refine kba_turn (value' := PySem.Expr.Name (PySem.Str.ofString "_") ⟨0, 0, 0, 0⟩) (fun _ => rfl) ?_)))) | ((with_reducible show wpAny _ _ (subscriptTail _ _ _ _) _ _ _); (with_reducible (k_here; (with_reducible show wpAny _ _ (subscriptTail _ (PySem.Expr.Slice _ _ none _) (Value.ref _) (Value.ref _)) _ _ _); k_dflt (refine' slice_pair ?zzF ?zzN ?zzm ?zzi ?zzl ?zzh0 ?zzh1 ?zzh2 ?_ ?zzs ?zzt; (case zzF => k_asm); (case zzN => k_asm); (case zzm => first | k_mem | (repeat (first | with_reducible assumption | with_reducible refine List.mem_cons_of_mem _ ?_))); (case zzi => assumption); (case zzl => first | assumption | exact (show Row256 _ from by assumption).1 | exact addP_len _ _); (case zzh0 => omega); (case zzh1 => omega); (case zzh2 => omega); (case zzs => with_unfolding_all rfl); (case zzt => kmk_pure)); intro D9 u9 v9 h9 F9 N9 l9; (try dsimp only at l9); (try k_lt l9)))) | ((with_reducible show wpAny _ _ (getMethod (Value.ref _) _ _) _ _ _); (with_reducible (k_here; (first | (with_reducible show wpAny _ _ (getMethod (Value.ref _) (PySem.Str.ofString "ring") _) _ _ _) | (with_reducible show wpAny _ _ (getMethod (Value.ref _) (PySem.Str.ofString "parent") _) _ _ _)); k_dflt (refine' kmu_own ?zzk1 ?zzk2 ?zzk3 ?zzk4 ?zzk5 ?_; (case zzk1 => k_asm); (case zzk2 => k_asm); (case zzk3 => k_inst); (case zzk4 => k_is); (case zzk5 => k_is); k_whole)))) | ((with_reducible show wpAny _ _ (getAttr (Value.ref _) _ _) _ _ _); (with_reducible (k_here; k_dflt (refine' get_own ?zzk1 ?zzk2 ?zzk3 ?zzk4 ?zzk5 ?zzk6 ?zzk7 ?zzk8 ?zzk9 ?_; (case zzk1 => k_asm); (case zzk2 => k_asm); (case zzk3 => k_inst); (case zzk4 => k_is); (case zzk5 => k_is); (case zzk6 => k_is); (case zzk7 => k_is); (case zzk8 => k_get); (case zzk9 => k_handed); k_whole)))) | ((with_reducible show wpAny _ _ (call (Value.type "list") _ _) _ _ _); (with_reducible (k_here; (with_reducible show wpAny _ _ (call (Value.type "list") [Value.ref _]) _ _ _); k_dflt (refine' listcopy_use ?zzk1 ?zzk2 ?zzm1 ?zzi1 ?zzr1 ?_; (case zzk1 => k_asm); (case zzk2 => k_asm); (case zzm1 => k_mem); (case zzi1 => assumption); (case zzr1 => assumption); k_whole); (intro D9 c9 h9 F9 N9 l9; (try dsimp only at l9); (try k_lt l9))))) | ((with_reducible show wpAny _ _ (exec (Stmt.Assign _ _ _) _) _ _ _); (with_reducible (k_here; k_dflt (refine LCg.Assign_ListComp_U (F₀ := by k_asm) (by rfl) (by with_unfolding_all rfl) (by rfl) (by decide) (by rfl) (by decide) (by rfl) (by rfl) (by rfl) ?_)))) | ((with_reducible show wpAny _ _ (binaryOp _ (Value.ref _) (Value.ref _)) _ _ _); (with_reducible (k_here; (with_reducible show wpAny _ _ (binaryOp _ (Value.ref _) (Value.ref _)) _ _ _); k_dflt (refine' binop_K ?zzk1 ?zzk2 ?zzk3 ?zzk4 ?zzk5 ?zzk6 ?zzk7 ?_; (case zzk1 => k_asm); (case zzk2 => k_asm); (case zzk3 => k_inst); (case zzk4 => k_typeOf); (case zzk5 => k_is); (case zzk6 => k_is); (case zzk7 => k_is); k_whole)))) | ((with_reducible show wpAny _ _ (callWith _ (Value.ref _) _ _ _) _ _ _); (with_reducible (k_here; k_dflt (refine' callWith_ownKW ?zzk1 ?zzk2 ?zzk3 ?zzk4 ?zzk5 ?_; (case zzk1 => k_in); (case zzk2 => k_inst); (case zzk3 => rfl); (case zzk4 => k_is); (case zzk5 => exact rfl); k_whole)))) | ((with_reducible show wpAny _ _ (setItem (Value.ref _) (Value.int _ _) _) _ _ _); (with_reducible (k_here; (with_reducible show wpAny _ _ (setItem (Value.ref _) (Value.int _ _) _) _ _ _); k_dflt (refine' set_here ?zzk1 ?zzk2 ?zzk3 ?zzk4 ?zzk5 ?zzk6 ?zzk7 ?_; (case zzk1 => k_asm); (case zzk2 => k_asm); (case zzk3 => k_upd); (case zzk4 => decide); (case zzk5 => simp; done); (case zzk6 => decide); (case zzk7 => exact rfl); k_whole); intro h' F' N'; (simp only [List.setIfInBounds_toArray, Int.toNat_zero, Int.reduceToNat, List.set_cons_zero, List.set_cons_succ] at N'); (try k_sweep)))) | ((with_reducible show wpAny _ _ (getMethod (Value.ref _) _ _) _ _ _); (with_reducible (k_here; k_dflt (first | (refine' method_inst ?zzk1 ?zzk2 ?zzk3 ?zzk4 ?zzk5 ?zzk6 ?zzk7 ?_; (case zzk1 => k_asm); (case zzk2 => k_asm); (case zzk3 => k_inst); (case zzk4 => k_is); (case zzk5 => k_is); (case zzk6 => k_is); (case zzk7 => k_get); k_whole) | (refine' kmu_own ?zzk1 ?zzk2 ?zzk3 ?zzk4 ?zzk5 ?_; (case zzk1 => k_asm); (case zzk2 => k_asm); (case zzk3 => k_inst); (case zzk4 => k_is); (case zzk5 => k_is); k_whole) | (refine' kmu_sm ?zzk1 ?zzk2 ?zzk4 ?zzk5 ?zzk6 ?zzk7 ?zzk8 ?zzk9 ?zzk10 ?zzk11 ?zzk12 ?zzk13 ?zzk14 ?_; (case zzk1 => k_asm); (case zzk2 => k_asm); (case zzk4 => k_inst); (case zzk5 => k_is); (case zzk6 => k_is); (case zzk7 => k_is); (case zzk8 => k_is); (case zzk9 => k_is); (case zzk10 => k_is); (case zzk11 => decide +kernel); (case zzk12 => k_get); (case zzk13 => k_is); (case zzk14 => k_handed); k_whole))))) | walk1 | dsimp only))
    rename_i gg9_1 x9_1 dx9_1 l9_1 c9_5 h9_1 g9_6 g'_1 I'_4 oI'_4 C'_4 oC'_4 D'_5 m' h'_1 tk' E' hC' hv' hx' og1' og2' og3' cE' qk_2 ek_2 D9_1 c9_6 h9_6 gk' l9_2 x9_2 dx9_2 u9_1 v9_1 h9_7 tk9_1 g9_7 gg9_2 I'_5 oI'_5 C'_5 oC'_5 D'_6 m'_1 h'_2 tk'_1 E'_1 hC'_1 hv'_1 hx'_1 og1'_1 og2'_1 og3'_1 cE'_1 qk_3 ek_3 D9_2 c9_7 h9_8 gk'_3 l9_3 x9_3 dx9_3 u9_2 v9_2 h9_9 tk9_3 g9_8 gg9_3 I'_6 oI'_6 C'_6 oC'_6 D'_7 m'_2 h'_11 tk'_2 E'_2 hC'_2 hv'_2 hx'_2 og1'_2 og2'_2 og3'_2 cE'_2 qk_4 ek_4 D9_3 c9_8 h9_10 gk'_4 l9_4 x9_4 dx9_4 u9_3 v9_3 h9_11 tk9_4 g9_9 gg9_4 I'_7 oI'_7 C'_7 oC'_7 D'_8 m'_3 h'_12 tk'_3 E'_3 hC'_3 hv'_3 hx'_3 og1'_3 og2'_3 og3'_3 cE'_3 h9_12 gk'_5 D'_9 h'_13 tk'_5 F'_1 N'_1 og'_1
    clear tk9 h9_12 ek qk cE'_3 og3'_3 og2'_3 og1'_3 hx'_3 hv'_3 hC'_3 E'_3 tk'_3 h'_12 m'_3 tk9_4 h9_11 h9_10 ek_4 qk_4 cE'_2 og3'_2 og2'_2 og1'_2 hx'_2 hv'_2 hC'_2 E'_2 tk'_2 h'_11 m'_2 tk9_3 h9_9 h9_8 ek_3 qk_3 cE'_1 og3'_1 og2'_1 og1'_1 hx'_1 hv'_1 hC'_1 E'_1 tk'_1 h'_2 m'_1 tk9_1 h9_7 h9_6 ek_2 qk_2 cE' og3' og2' og1' hx' hv' hC' E' tk' h'_1 m' g'_1 tk'_4 h'_10 h9_1 h'_9 h9_5 h'_8 h9_4 h'_7 h9_3 h'_6
    exact by
      w_top off
      repeat' ((fail_if_success (with_reducible show wpAny _ _ (exec (Stmt.Assign [PySem.Expr.Name (Str.ofString "told") _] _ _) _) _ _ _)); (first | ((with_reducible refine qb1 ?_); (try dsimp only)) | ((with_reducible refine qb2 ?_); (try dsimp only)) | ((with_reducible refine qa1 ?_); (try dsimp only)) | ((with_reducible refine qa2 ?_); (try dsimp only [List.cons_append, List.nil_append])) | ((with_reducible refine qs1 ?_); (try dsimp only)) | ((with_reducible refine qs2 ?_); (try dsimp only)) | (with_reducible refine qs3 ?_) | (with_reducible refine qs4 ?_) | ((with_reducible refine qc1 ?_); (try dsimp only)) | ((with_reducible refine qu1 ?_); (try dsimp only)) | (with_reducible refine qu2 ?_) | ((with_reducible refine qg1 ?_); (try dsimp only)) | (with_reducible refine qg2 ?_) | ((with_reducible refine qt1 ?_); (try dsimp only)) | ((with_reducible refine qr1 ?_); (try dsimp only)) | (with_reducible refine qb0 ?_) | (with_reducible refine qu0 ?_) | ((with_reducible show wpAny _ _ (spliced (backTo _ (starEach (_ :: _) _))) _ _ _); k_dflt (refine qa0 ?_)) | ((with_reducible show wpAny _ _ (execs (_ :: _) _) _ _ _); first | (k_here; k_gentoks) | (with_reducible refine qs0 ?_)) | ((with_reducible show wpAny _ _ (eval (PySem.Expr.Call (PySem.Expr.Name _ _) _ [] _) _) _ _ _); (fail_if_success (with_reducible show wpAny _ _ (eval _ (compEnvC _ _ _ _)) _ _ _)); k_dflt (refine qc0 ?_)) | ((with_reducible show wpAny _ _ (exec (Stmt.Assign [PySem.Expr.Name _ _] _ _) _) _ _ _); (fail_if_success (with_reducible show wpAny _ _ (exec (Stmt.Assign _ (PySem.Expr.ListComp _ _ _ _) _) _) _ _ _)); k_dflt (refine qg0 ?_)) | ((with_reducible show wpAny _ _ (eval (PySem.Expr.Attribute (PySem.Expr.Name _ _) _ _) _) _ _ _); k_dflt (refine qt0 ?_)) | (with_reducible refine qr0 ?_) | ((with_reducible show wpAny _ _ (call (Value.ref _) _ _) _ _ _); first | (with_reducible (k_here; (with_reducible show wpAny _ _ (call (Value.ref 330) _) _ _ _); k_dflt (refine' dot_use ?zzk1 ?zzk2 ?zzk3 ?zzk4 ?zzk5 ?zzk6 ?zzu1 ?zzu2 ?zzt1 ?zzt2 ?zzm0 ?zzm1 ?zzm2 ?zzm3 ?zzm4 ?zzm5 ?zzm6 ?zzm7 ?zzm8 ?zzm9 ?zzm10 ?zzm11 ?zzm12 ?zzm13 ?zzm14 ?zzm15 ?zzm16 ?zzm17 ?zzm18 ?zzm19 ?zzm20 ?zzm21 ?zzm22 ?zzm23 ?zzm24 ?zzhZ ?zzhF0 ?zzhF1 ?zzhG0 ?zzhG1 ?zzlF0 ?zzlF1 ?zzlG0 ?zzlG1 ?zzsF0 ?zzsF1 ?zzsG0 ?zzsG1 ?zzd1 ?zzd2 ?_; (case zzk1 => k_asm); (case zzk2 => k_asm); (case zzk3 => k_asm); (case zzk4 => k_asm); (case zzk5 => k_asm); (case zzk6 => first | exact rfl | assumption); (case zzu1 => k_updF); (case zzu2 => (intro o9; (try dsimp only); k_updF)); (case zzt1 => first | assumption | exact True.intro); (case zzt2 => first | assumption | exact True.intro); (case zzm0 => walk_at "mm"); (case zzm1 => walk_at "mm"); (case zzm2 => walk_at "mm"); (case zzm3 => walk_at "mm"); (case zzm4 => walk_at "mm"); (case zzm5 => walk_at "mm"); (case zzm6 => walk_at "mm"); (case zzm7 => walk_at "mm"); (case zzm8 => walk_at "mm"); (case zzm9 => walk_at "mm"); (case zzm10 => walk_at "mm"); (case zzm11 => walk_at "mm"); (case zzm12 => walk_at "mm"); (case zzm13 => walk_at "mm"); (case zzm14 => walk_at "mm"); (case zzm15 => walk_at "mm"); (case zzm16 => walk_at "mm"); (case zzm17 => walk_at "mm"); (case zzm18 => walk_at "mm"); (case zzm19 => walk_at "mm"); (case zzm20 => walk_at "mm"); (case zzm21 => walk_at "mm"); (case zzm22 => walk_at "mm"); (case zzm23 => walk_at "mm"); (case zzm24 => walk_at "mm"); (case zzhZ => assumption); (case zzhF0 => assumption); (case zzhF1 => assumption); (case zzhG0 => assumption); (case zzhG1 => assumption); (case zzlF0 => first | assumption | exact (show Row256 _ from by assumption).1); (case zzlF1 => first | assumption | exact (show Row256 _ from by assumption).1); (case zzlG0 => first | assumption | exact (show Row256 _ from by assumption).1); (case zzlG1 => first | assumption | exact (show Row256 _ from by assumption).1); (case zzsF0 => first | assumption | exact small_of (show Row256 _ from by assumption).2); (case zzsF1 => first | assumption | exact small_of (show Row256 _ from by assumption).2); (case zzsG0 => first | assumption | exact small_of (show Row256 _ from by assumption).2); (case zzsG1 => first | assumption | exact small_of (show Row256 _ from by assumption).2); (case zzd1 => ktr_room); (case zzd2 => first | assumption | decide); k_whole); (intro y9 dy9 c9 w9 z9 its9 kk9 h9 tk9 gs9 ps9 qs9 ht9 hq9 hI9 F9 N9 g5 g6 g7 hb9); (try dsimp only at N9); (try dsimp only at g5); (try dsimp only at g6); (try dsimp only at g7))) | (with_reducible (k_here; (with_reducible show wpAny _ _ (call (Value.ref 323) _) _ _ _); k_dflt (refine' matmul_use ?zzk1 ?zzk2 ?zzk3 ?zzk4 ?zzk5 ?zzk6 ?zzu1 ?zzu2 ?zzt1 ?zzt2 ?zzm0 ?zzm1 ?zzm2 ?zzm3 ?zzm4 ?zzm5 ?zzm6 ?zzm7 ?zzm8 ?zzm9 ?zzm10 ?zzm11 ?zzm12 ?zzm13 ?zzm14 ?zzm15 ?zzm16 ?zzm17 ?zzm18 ?zzm19 ?zzm20 ?zzm21 ?zzm22 ?zzm23 ?zzm24 ?zzhZ ?zzhF0 ?zzhF1 ?zzhG0 ?zzhG1 ?zzlF0 ?zzlF1 ?zzlG0 ?zzlG1 ?zzsF0 ?zzsF1 ?zzsG0 ?zzsG1 ?zzd1 ?zzd2 ?_; (case zzk1 => k_asm); (case zzk2 => k_asm); (case zzk3 => k_asm); (case zzk4 => k_asm); (case zzk5 => k_asm); (case zzk6 => first | exact rfl | assumption); (case zzu1 => k_updF); (case zzu2 => (intro o9; (try dsimp only); k_updF)); (case zzt1 => first | assumption | exact True.intro); (case zzt2 => first | assumption | exact True.intro); (case zzm0 => walk_at "mm"); (case zzm1 => walk_at "mm"); (case zzm2 => walk_at "mm"); (case zzm3 => walk_at "mm"); (case zzm4 => walk_at "mm"); (case zzm5 => walk_at "mm"); (case zzm6 => walk_at "mm"); (case zzm7 => walk_at "mm"); (case zzm8 => walk_at "mm"); (case zzm9 => walk_at "mm"); (case zzm10 => walk_at "mm"); (case zzm11 => walk_at "mm"); (case zzm12 => walk_at "mm"); (case zzm13 => walk_at "mm"); (case zzm14 => walk_at "mm"); (case zzm15 => walk_at "mm"); (case zzm16 => walk_at "mm"); (case zzm17 => walk_at "mm"); (case zzm18 => walk_at "mm"); (case zzm19 => walk_at "mm"); (case zzm20 => walk_at "mm"); (case zzm21 => walk_at "mm"); (case zzm22 => walk_at "mm"); (case zzm23 => walk_at "mm"); (case zzm24 => walk_at "mm"); (case zzhZ => assumption); (case zzhF0 => assumption); (case zzhF1 => assumption); (case zzhG0 => assumption); (case zzhG1 => assumption); (case zzlF0 => first | assumption | exact (show Row256 _ from by assumption).1); (case zzlF1 => first | assumption | exact (show Row256 _ from by assumption).1); (case zzlG0 => first | assumption | exact (show Row256 _ from by assumption).1); (case zzlG1 => first | assumption | exact (show Row256 _ from by assumption).1); (case zzsF0 => first | assumption | exact small_of (show Row256 _ from by assumption).2); (case zzsF1 => first | assumption | exact small_of (show Row256 _ from by assumption).2); (case zzsG0 => first | assumption | exact small_of (show Row256 _ from by assumption).2); (case zzsG1 => first | assumption | exact small_of (show Row256 _ from by assumption).2); (case zzd1 => ktr_room); (case zzd2 => first | assumption | decide); k_whole); (intro x9 dx9 D9 a9 y9 dy9 c9 t9 u9 v9 kd9 ka9 w9 z9 its9 kk9 h9 tk9 gs9 ps9 qs9 ht9 hq9 hI9 F9 N9 g1 g2 g3 g4 g5 g6 g7 hb9); (try dsimp only at N9); (try dsimp only at g1); (try dsimp only at g2); (try dsimp only at g3); (try dsimp only at g4); (try dsimp only at g5); (try dsimp only at g6); (try dsimp only at g7))) | (with_reducible (k_here; (with_reducible show wpAny _ _ (call (Value.ref _) [Value.ref _, Value.bool _]) _ _ _); k_dflt (refine' mod_two ?zzk1 ?zzk2 ?zzk3 ?zzk4 ?zzk5 ?zzk6 ?zzu1 ?zzt1 ?zzm1 ?zzm2 ?zzm3 ?zzm4 ?zzm5 ?zzm6 ?zzd1 ?_; (case zzk1 => k_asm); (case zzk2 => k_asm); (case zzk3 => k_asm); (case zzk4 => k_asm); (case zzk5 => k_asm); (case zzk6 => first | exact rfl | assumption); (case zzu1 => k_updF); (case zzt1 => first | assumption | exact True.intro); (case zzm1 => walk_at "mm"); (case zzm2 => walk_at "mm"); (case zzm3 => walk_at "mm"); (case zzm4 => walk_at "mm"); (case zzm5 => walk_at "mm"); (case zzm6 => walk_at "mm"); (case zzd1 => ktr_room); k_whole); (intro x9 dx9 t9 u9 v9 h9 tk9 gs9 ps9 ht9 g9 gg9 F9 N9 k9 hb9; clear k9); (try dsimp only at g9); (try dsimp only at gg9); (try dsimp only at N9))) | (with_reducible (k_here; (with_reducible show wpAny _ _ (call (Value.ref 662) _ _) _ _ _); (k_dflt (show wpAny _ _ (call (Value.ref 662) [Value.ref _, Value.ref _] [(Str.ofString "transpose", Value.bool _)]) _ _ _)); k_dflt (refine' mat_use ?zzk1 ?zzk2 ?zzk3 ?zzk4 ?zzk5 ?zzk6 ?zzm1 ?zzm2 ?zzm3 ?zzm4 ?zzz1 ?zzd1 ?_; (case zzk1 => k_asm); (case zzk2 => k_asm); (case zzk3 => k_asm); (case zzk4 => k_asm); (case zzk5 => k_asm); (case zzk6 => first | exact rfl | assumption); (case zzm1 => walk_at "mm"); (case zzm2 => walk_at "mm"); (case zzm3 => walk_at "mm"); (case zzm4 => walk_at "mm"); (case zzz1 => first | assumption | exact (show (2 : Nat) < 8 from by decide) | exact (show (1 : Nat) < 8 from by decide)); (case zzd1 => ktr_room); k_whole); (intro x9 dx9 t9 u9 v9 h9 tk9 g9 gg9 F9 N9 k9; clear k9); (try k_sweep))) | (with_reducible (k_here; (first | (with_reducible show wpAny _ _ (call (Value.ref _) [Value.ref _] (List.zip _ _)) _ _ _) | (with_reducible show wpAny _ _ (call (Value.ref _) [Value.ref _] [(_, Value.bool true)]) _ _ _) | (with_reducible show wpAny _ _ (call (Value.ref _) ([] ++ [Value.ref _]) (List.zip _ _)) _ _ _)); (k_dflt (show wpAny _ _ (call (Value.ref _) [Value.ref _] [(Str.ofString "is_ntt", Value.bool true)]) _ _ _)); k_dflt (refine' mk_use ?zzk1 ?zzk2 ?zzk3 ?zzk4 ?zzk5 ?zzk6 ?zzm1 ?zzm2 ?zzm3 ?zzi1 ?zzn1 ?zzd1 ?_; (case zzk1 => k_asm); (case zzk2 => k_asm); (case zzk3 => k_asm); (case zzk4 => k_asm); (case zzk5 => k_asm); (case zzk6 => first | exact rfl | assumption); (case zzm1 => walk_at "mm"); (case zzm2 => walk_at "mm"); (case zzm3 => walk_at "mm"); (case zzi1 => assumption); (case zzn1 => first | assumption | exact mulP_len _ _ _ | exact (show Row256 _ from by assumption).1); (case zzd1 => ktr_room); k_whole); (intro x9 dx9 u9 v9 h9 tk9 g9 gg9 F9 N9 k9; clear k9); (try k_sweep))) | (with_reducible (k_here; (with_reducible show wpAny _ _ (call (Value.ref 694) _) _ _ _); k_dflt (refine' root_con ?zzk1 ?zzk2 ?zzk3 ?zzk5 ?zzk6 _ _ ?zzi1 ?zzi2 ?zzd1 ?_; (case zzk1 => k_asm); (case zzk2 => k_asm); (case zzk3 => k_asm); (case zzk5 => k_asm); (case zzk6 => first | exact rfl | assumption); (case zzi1 => omega); (case zzi2 => omega); (case zzd1 => ktr_room); k_whole); (intro t9 h9 tk9 k9; have F9 := Fr.stays (by assumption) k9; have N9 := News.stays (by assumption) k9; clear k9))) | (with_reducible (k_here; (with_reducible show wpAny _ _ (call (Value.ref 687) _) _ _ _); k_dflt (refine' take_use ?zzk1 ?zzk2 ?zzk3 ?zzk4 ?zzk5 ?zzk6 ?zzu1 ?zzu2 ?zzi1 ?zzi2 ?zzi3 ?zzi4 ?zzi5 ?zzi6 ?zzi7 ?zzi8 ?zzi9 ?zzd1 ?_; (case zzk1 => k_asm); (case zzk2 => k_asm); (case zzk3 => k_asm); (case zzk4 => k_asm); (case zzk5 => k_asm); (case zzk6 => first | exact rfl | assumption); (case zzu1 => k_updF); (case zzu2 => (intro o9; (try dsimp only); k_updF)); (case zzi1 => assumption); (case zzi2 => assumption); (case zzi3 => omega); (case zzi4 => omega); (case zzi5 => omega); (case zzi6 => omega); (case zzi7 => omega); (case zzi8 => omega); (case zzi9 => k_ne); (case zzd1 => ktr_room); k_whole); (intro r9 t9 n9 tn9 vs9 ns9 h9 tk9 ra9 rb9 na9 nb9 hi9 hl9 hp9 F9 N9); (try dsimp only at N9); (try k_sweep))) | (with_reducible (k_here; (with_reducible show wpAny _ _ (call (Value.ref 699) _) _ _ _); k_dflt (refine' full_use ?zzk1 ?zzk2 ?zzk3 ?zzk4 ?zzk5 ?zzk6 ?zzu1 ?zzu2 ?zzi1 ?zzi2 ?zzi3 ?zzi4 ?zzi5 ?zzi6 ?zzi9 ?zzd1 ?_; (case zzk1 => k_asm); (case zzk2 => k_asm); (case zzk3 => k_asm); (case zzk4 => k_asm); (case zzk5 => k_asm); (case zzk6 => first | exact rfl | assumption); (case zzu1 => k_updF); (case zzu2 => (intro o9; (try dsimp only); k_updF)); (case zzi1 => assumption); (case zzi2 => assumption); (case zzi3 => omega); (case zzi4 => omega); (case zzi5 => omega); (case zzi6 => omega); (case zzi9 => k_ne); (case zzd1 => ktr_room); k_whole); (intro r9 ys9 c9 kk9 n9 tn9 vs9 ns9 h9 tk9 ya9 ro9 na9 nb9 hi9 hl9 hp9 F9 N9 g9); (try dsimp only at N9); (try dsimp only at g9))) | (with_reducible (k_here; (with_reducible show wpAny _ _ (call (Value.ref 437) _) _ _ _); k_dflt (refine' ring_use ?zzk1 ?zzk2 ?zzk3 ?zzk4 ?zzk5 ?zzk6 ?zzd1 ?_; (case zzk1 => k_asm); (case zzk2 => k_asm); (case zzk3 => k_asm); (case zzk4 => k_asm); (case zzk5 => k_asm); (case zzk6 => first | exact rfl | assumption); (case zzd1 => ktr_room); k_whole); (intro x9 dx9 z9 zs9 kz9 a9 b9 c9 d9 e9 f9 g9 h9 tk9 i9 l9 ll9 n9 F9 N9; (try dsimp only at l9); (try k_lt l9); (try k_lt2 ll9)))) | (with_reducible (k_here; (with_reducible show wpAny _ _ (call (Value.ref 680) _) _ _ _); k_dflt (refine' state_use ?zzk1 ?zzk2 ?zzk3 ?zzk4 ?zzk5 ?zzk6 ?zzl1 ?zzl2 ?zzl3 ?zzd1 ?_; (case zzk1 => k_asm); (case zzk2 => k_asm); (case zzk3 => k_asm); (case zzk4 => k_asm); (case zzk5 => k_asm); (case zzk6 => first | exact rfl | assumption); (case zzl1 => assumption); (case zzl2 => assumption); (case zzl3 => assumption); (case zzd1 => ktr_room); k_whole); (intro st9 ce9 vs9 ns9 t9 k19 k29 h9 tk9 i9 p9 q9 z9 n9 g9 gg9 F9 N9)))) | ((with_reducible show wpAny _ _ (compareOp _ (Value.ref _) (Value.ref _)) _ _ _); (with_reducible (k_here; (with_reducible show wpAny _ _ (compareOp CmpOp.Eq (Value.ref _) (Value.ref _)) _ _ _); k_dflt (refine' eq_same ?zzN ?zzm1 ?zzm2 ?zzhi ?zzhj ?zzhu ?_; (case zzN => k_asm); (case zzm1 => k_mem); (case zzm2 => k_mem); (case zzhi => assumption); (case zzhj => assumption); (case zzhu => units_room); k_whole)))) | ((with_reducible show wpAny _ _ (compareOp _ (Value.ref _) (Value.ref _)) _ _ _); (with_reducible (k_here; (with_reducible show wpAny _ _ (compareOp CmpOp.NotEq (Value.ref _) (Value.ref _)) _ _ _); k_dflt (refine' ne_pair ?zzN ?zzm1 ?zzm2 ?zzex ?zzey ?zzhu ?_; (case zzN => k_asm); (case zzm1 => k_mem); (case zzm2 => k_mem); (case zzex => exact told_first _ _ _ _ (by assumption) (by assumption)); (case zzey => exact told_second _ _ _ _ (by assumption) (by assumption)); (case zzhu => units_room); k_whole)))) | ((with_reducible show wpAny _ _ (subscriptTail _ _ _ _) _ _ _); (with_reducible (k_here; (with_reducible show wpAny _ _ (subscriptTail _ _ (Value.ref _) (Value.int _ _)) _ _ _); k_dflt (refine' item_lit ?zzk1 ?zzk2 ?zzk3 ?zzk4 ?zzk5 ?_ ?zzk6; (case zzk1 => k_asm); (case zzk2 => first | k_mem | (repeat (first | with_reducible assumption | with_reducible refine List.mem_cons_of_mem _ ?_))); (case zzk3 => decide); (case zzk4 => exact rfl); (case zzk5 => first | exact (show (4 : Nat) < 8 from by decide) | exact (show (2 : Nat) < 8 from by decide)); (case zzk6 => with_unfolding_all rfl); k_whole)))) | ((with_reducible show wpAny _ _ (subscriptTail _ _ _ _) _ _ _); (with_reducible (k_here; (with_reducible show wpAny _ _ (subscriptTail (PySem.Expr.Subscript _ _ _) (PySem.Expr.Slice _ _ none _) (Value.ref _) (Value.ref _)) _ _ _); k_dflt (refine kba_turn (value' := PySem.Expr.Name (PySem.Str.ofString "_") ⟨0, 0, 0, 0⟩) (fun _ => rfl) ?_)))) | ((with_reducible show wpAny _ _ (subscriptTail _ _ _ _) _ _ _); (with_reducible (k_here; (with_reducible show wpAny _ _ (subscriptTail _ (PySem.Expr.Slice _ _ none _) (Value.ref _) (Value.ref _)) _ _ _); k_dflt (refine' slice_pair ?zzF ?zzN ?zzm ?zzi ?zzl ?zzh0 ?zzh1 ?zzh2 ?_ ?zzs ?zzt; (case zzF => k_asm); (case zzN => k_asm); (case zzm => first | k_mem | (repeat (first | with_reducible assumption | with_reducible refine List.mem_cons_of_mem _ ?_))); (case zzi => assumption); (case zzl => first | assumption | exact (show Row256 _ from by assumption).1 | exact addP_len _ _); (case zzh0 => omega); (case zzh1 => omega); (case zzh2 => omega); (case zzs => with_unfolding_all rfl); (case zzt => kmk_pure)); intro D9 u9 v9 h9 F9 N9 l9; (try dsimp only at l9); (try k_lt l9)))) | ((with_reducible show wpAny _ _ (getMethod (Value.ref _) _ _) _ _ _); (with_reducible (k_here; (first | (with_reducible show wpAny _ _ (getMethod (Value.ref _) (PySem.Str.ofString "ring") _) _ _ _) | (with_reducible show wpAny _ _ (getMethod (Value.ref _) (PySem.Str.ofString "parent") _) _ _ _)); k_dflt (refine' kmu_own ?zzk1 ?zzk2 ?zzk3 ?zzk4 ?zzk5 ?_; (case zzk1 => k_asm); (case zzk2 => k_asm); (case zzk3 => k_inst); (case zzk4 => k_is); (case zzk5 => k_is); k_whole)))) | ((with_reducible show wpAny _ _ (getAttr (Value.ref _) _ _) _ _ _); (with_reducible (k_here; k_dflt (refine' get_own ?zzk1 ?zzk2 ?zzk3 ?zzk4 ?zzk5 ?zzk6 ?zzk7 ?zzk8 ?zzk9 ?_; (case zzk1 => k_asm); (case zzk2 => k_asm); (case zzk3 => k_inst); (case zzk4 => k_is); (case zzk5 => k_is); (case zzk6 => k_is); (case zzk7 => k_is); (case zzk8 => k_get); (case zzk9 => k_handed); k_whole)))) | ((with_reducible show wpAny _ _ (call (Value.type "list") _ _) _ _ _); (with_reducible (k_here; (with_reducible show wpAny _ _ (call (Value.type "list") [Value.ref _]) _ _ _); k_dflt (refine' listcopy_use ?zzk1 ?zzk2 ?zzm1 ?zzi1 ?zzr1 ?_; (case zzk1 => k_asm); (case zzk2 => k_asm); (case zzm1 => k_mem); (case zzi1 => assumption); (case zzr1 => assumption); k_whole); (intro D9 c9 h9 F9 N9 l9; (try dsimp only at l9); (try k_lt l9))))) | ((with_reducible show wpAny _ _ (exec (Stmt.Assign _ _ _) _) _ _ _); (with_reducible (k_here; k_dflt (refine LCg.Assign_ListComp_U (F₀ := by k_asm) (by rfl) (by with_unfolding_all rfl) (by rfl) (by decide) (by rfl) (by decide) (by rfl) (by rfl) (by rfl) ?_)))) | ((with_reducible show wpAny _ _ (binaryOp _ (Value.ref _) (Value.ref _)) _ _ _); (with_reducible (k_here; (with_reducible show wpAny _ _ (binaryOp _ (Value.ref _) (Value.ref _)) _ _ _); k_dflt (refine' binop_K ?zzk1 ?zzk2 ?zzk3 ?zzk4 ?zzk5 ?zzk6 ?zzk7 ?_; (case zzk1 => k_asm); (case zzk2 => k_asm); (case zzk3 => k_inst); (case zzk4 => k_typeOf); (case zzk5 => k_is); (case zzk6 => k_is); (case zzk7 => k_is); k_whole)))) | ((with_reducible show wpAny _ _ (callWith _ (Value.ref _) _ _ _) _ _ _); (with_reducible (k_here; k_dflt (refine' callWith_ownKW ?zzk1 ?zzk2 ?zzk3 ?zzk4 ?zzk5 ?_; (case zzk1 => k_in); (case zzk2 => k_inst); (case zzk3 => rfl); (case zzk4 => k_is); (case zzk5 => exact rfl); k_whole)))) | ((with_reducible show wpAny _ _ (setItem (Value.ref _) (Value.int _ _) _) _ _ _); (with_reducible (k_here; (with_reducible show wpAny _ _ (setItem (Value.ref _) (Value.int _ _) _) _ _ _); k_dflt (refine' set_here ?zzk1 ?zzk2 ?zzk3 ?zzk4 ?zzk5 ?zzk6 ?zzk7 ?_; (case zzk1 => k_asm); (case zzk2 => k_asm); (case zzk3 => k_upd); (case zzk4 => decide); (case zzk5 => simp; done); (case zzk6 => decide); (case zzk7 => exact rfl); k_whole); intro h' F' N'; (simp only [List.setIfInBounds_toArray, Int.toNat_zero, Int.reduceToNat, List.set_cons_zero, List.set_cons_succ] at N'); (try k_sweep)))) | ((with_reducible show wpAny _ _ (getMethod (Value.ref _) _ _) _ _ _); (with_reducible (k_here; k_dflt (first | (refine' method_inst ?zzk1 ?zzk2 ?zzk3 ?zzk4 ?zzk5 ?zzk6 ?zzk7 ?_; (case zzk1 => k_asm); (case zzk2 => k_asm); (case zzk3 => k_inst); (case zzk4 => k_is); (case zzk5 => k_is); (case zzk6 => k_is); (case zzk7 => k_get); k_whole) | (refine' kmu_own ?zzk1 ?zzk2 ?zzk3 ?zzk4 ?zzk5 ?_; (case zzk1 => k_asm); (case zzk2 => k_asm); (case zzk3 => k_inst); (case zzk4 => k_is); (case zzk5 => k_is); k_whole) | (refine' kmu_sm ?zzk1 ?zzk2 ?zzk4 ?zzk5 ?zzk6 ?zzk7 ?zzk8 ?zzk9 ?zzk10 ?zzk11 ?zzk12 ?zzk13 ?zzk14 ?_; (case zzk1 => k_asm); (case zzk2 => k_asm); (case zzk4 => k_inst); (case zzk5 => k_is); (case zzk6 => k_is); (case zzk7 => k_is); (case zzk8 => k_is); (case zzk9 => k_is); (case zzk10 => k_is); (case zzk11 => decide +kernel); (case zzk12 => k_get); (case zzk13 => k_is); (case zzk14 => k_handed); k_whole))))) | walk1 | dsimp only))
      rename_i t9_1 tk_1 x9_5 dx9_5 u9_4 v9_4 h9_1 g9_10 gg9_5 D'_10 h'_1 gk'_6 l1_1 g'_1 L'_1 h'_2 B'_1 X'_2 T'_1 qk_2 ek_2 tk_3 l' h'_6 gk'_7 l1_2 x9_6 dx9_6 t9_2 u9_5 v9_5 h9_3 tk9_1 g9_11 gg9_6 F9_1 N9_1 Tc'_1 kX_1 D'_11 h'_7 gk'_8 l1_3 g'_2 L'_2 h'_8 B'_2 X'_3 T'_2 tk_4 l'_1 h'_9 gk'_9 l1_4 Tc'_2 kX_2 D'_12 h'_10 gk'_10 l1_5 h'_11 h'_12 h'_14 F'_1 N'_1
      clear h'_12 h'_11 h'_10 tk9 h'_9 tk_4 ek qk h'_8 h'_7 tk9_1 h'_6 tk_3 ek_2 qk_2 h'_2 h'_1 tk'_5 h'_13 h9_1
      exact by
        w_top off
        repeat' ((fail_if_success (with_reducible show wpAny _ _ (exec (Stmt.For _ _ _ _ _) _) _ _ _)); (first | ((with_reducible refine qb1 ?_); (try dsimp only)) | ((with_reducible refine qb2 ?_); (try dsimp only)) | ((with_reducible refine qa1 ?_); (try dsimp only)) | ((with_reducible refine qa2 ?_); (try dsimp only [List.cons_append, List.nil_append])) | ((with_reducible refine qs1 ?_); (try dsimp only)) | ((with_reducible refine qs2 ?_); (try dsimp only)) | (with_reducible refine qs3 ?_) | (with_reducible refine qs4 ?_) | ((with_reducible refine qc1 ?_); (try dsimp only)) | ((with_reducible refine qu1 ?_); (try dsimp only)) | (with_reducible refine qu2 ?_) | ((with_reducible refine qg1 ?_); (try dsimp only)) | (with_reducible refine qg2 ?_) | ((with_reducible refine qt1 ?_); (try dsimp only)) | ((with_reducible refine qr1 ?_); (try dsimp only)) | (with_reducible refine qb0 ?_) | (with_reducible refine qu0 ?_) | ((with_reducible show wpAny _ _ (spliced (backTo _ (starEach (_ :: _) _))) _ _ _); k_dflt (refine qa0 ?_)) | ((with_reducible show wpAny _ _ (execs (_ :: _) _) _ _ _); first | (k_here; k_gentoks) | (with_reducible refine qs0 ?_)) | ((with_reducible show wpAny _ _ (eval (PySem.Expr.Call (PySem.Expr.Name _ _) _ [] _) _) _ _ _); (fail_if_success (with_reducible show wpAny _ _ (eval _ (compEnvC _ _ _ _)) _ _ _)); k_dflt (refine qc0 ?_)) | ((with_reducible show wpAny _ _ (exec (Stmt.Assign [PySem.Expr.Name _ _] _ _) _) _ _ _); (fail_if_success (with_reducible show wpAny _ _ (exec (Stmt.Assign _ (PySem.Expr.ListComp _ _ _ _) _) _) _ _ _)); k_dflt (refine qg0 ?_)) | ((with_reducible show wpAny _ _ (eval (PySem.Expr.Attribute (PySem.Expr.Name _ _) _ _) _) _ _ _); k_dflt (refine qt0 ?_)) | (with_reducible refine qr0 ?_) | ((with_reducible show wpAny _ _ (call (Value.ref _) _ _) _ _ _); first | (with_reducible (k_here; (with_reducible show wpAny _ _ (call (Value.ref 330) _) _ _ _); k_dflt (refine' dot_use ?zzk1 ?zzk2 ?zzk3 ?zzk4 ?zzk5 ?zzk6 ?zzu1 ?zzu2 ?zzt1 ?zzt2 ?zzm0 ?zzm1 ?zzm2 ?zzm3 ?zzm4 ?zzm5 ?zzm6 ?zzm7 ?zzm8 ?zzm9 ?zzm10 ?zzm11 ?zzm12 ?zzm13 ?zzm14 ?zzm15 ?zzm16 ?zzm17 ?zzm18 ?zzm19 ?zzm20 ?zzm21 ?zzm22 ?zzm23 ?zzm24 ?zzhZ ?zzhF0 ?zzhF1 ?zzhG0 ?zzhG1 ?zzlF0 ?zzlF1 ?zzlG0 ?zzlG1 ?zzsF0 ?zzsF1 ?zzsG0 ?zzsG1 ?zzd1 ?zzd2 ?_; (case zzk1 => k_asm); (case zzk2 => k_asm); (case zzk3 => k_asm); (case zzk4 => k_asm); (case zzk5 => k_asm); (case zzk6 => first | exact rfl | assumption); (case zzu1 => k_updF); (case zzu2 => (intro o9; (try dsimp only); k_updF)); (case zzt1 => first | assumption | exact True.intro); (case zzt2 => first | assumption | exact True.intro); (case zzm0 => walk_at "mm"); (case zzm1 => walk_at "mm"); (case zzm2 => walk_at "mm"); (case zzm3 => walk_at "mm"); (case zzm4 => walk_at "mm"); (case zzm5 => walk_at "mm"); (case zzm6 => walk_at "mm"); (case zzm7 => walk_at "mm"); (case zzm8 => walk_at "mm"); (case zzm9 => walk_at "mm"); (case zzm10 => walk_at "mm"); (case zzm11 => walk_at "mm"); (case zzm12 => walk_at "mm"); (case zzm13 => walk_at "mm"); (case zzm14 => walk_at "mm"); (case zzm15 => walk_at "mm"); (case zzm16 => walk_at "mm"); (case zzm17 => walk_at "mm"); (case zzm18 => walk_at "mm"); (case zzm19 => walk_at "mm"); (case zzm20 => walk_at "mm"); (case zzm21 => walk_at "mm"); (case zzm22 => walk_at "mm"); (case zzm23 => walk_at "mm"); (case zzm24 => walk_at "mm"); (case zzhZ => assumption); (case zzhF0 => assumption); (case zzhF1 => assumption); (case zzhG0 => assumption); (case zzhG1 => assumption); (case zzlF0 => first | assumption | exact (show Row256 _ from by assumption).1); (case zzlF1 => first | assumption | exact (show Row256 _ from by assumption).1); (case zzlG0 => first | assumption | exact (show Row256 _ from by assumption).1); (case zzlG1 => first | assumption | exact (show Row256 _ from by assumption).1); (case zzsF0 => first | assumption | exact small_of (show Row256 _ from by assumption).2); (case zzsF1 => first | assumption | exact small_of (show Row256 _ from by assumption).2); (case zzsG0 => first | assumption | exact small_of (show Row256 _ from by assumption).2); (case zzsG1 => first | assumption | exact small_of (show Row256 _ from by assumption).2); (case zzd1 => ktr_room); (case zzd2 => first | assumption | decide); k_whole); (intro y9 dy9 c9 w9 z9 its9 kk9 h9 tk9 gs9 ps9 qs9 ht9 hq9 hI9 F9 N9 g5 g6 g7 hb9); (try dsimp only at N9); (try dsimp only at g5); (try dsimp only at g6); (try dsimp only at g7))) | (with_reducible (k_here; (with_reducible show wpAny _ _ (call (Value.ref 323) _) _ _ _); k_dflt (refine' matmul_use ?zzk1 ?zzk2 ?zzk3 ?zzk4 ?zzk5 ?zzk6 ?zzu1 ?zzu2 ?zzt1 ?zzt2 ?zzm0 ?zzm1 ?zzm2 ?zzm3 ?zzm4 ?zzm5 ?zzm6 ?zzm7 ?zzm8 ?zzm9 ?zzm10 ?zzm11 ?zzm12 ?zzm13 ?zzm14 ?zzm15 ?zzm16 ?zzm17 ?zzm18 ?zzm19 ?zzm20 ?zzm21 ?zzm22 ?zzm23 ?zzm24 ?zzhZ ?zzhF0 ?zzhF1 ?zzhG0 ?zzhG1 ?zzlF0 ?zzlF1 ?zzlG0 ?zzlG1 ?zzsF0 ?zzsF1 ?zzsG0 ?zzsG1 ?zzd1 ?zzd2 ?_; (case zzk1 => k_asm); (case zzk2 => k_asm); (case zzk3 => k_asm); (case zzk4 => k_asm); (case zzk5 => k_asm); (case zzk6 => first | exact rfl | assumption); (case zzu1 => k_updF); (case zzu2 => (intro o9; (try dsimp only); k_updF)); (case zzt1 => first | assumption | exact True.intro); (case zzt2 => first | assumption | exact True.intro); (case zzm0 => walk_at "mm"); (case zzm1 => walk_at "mm"); (case zzm2 => walk_at "mm"); (case zzm3 => walk_at "mm"); (case zzm4 => walk_at "mm"); (case zzm5 => walk_at "mm"); (case zzm6 => walk_at "mm"); (case zzm7 => walk_at "mm"); (case zzm8 => walk_at "mm"); (case zzm9 => walk_at "mm"); (case zzm10 => walk_at "mm"); (case zzm11 => walk_at "mm"); (case zzm12 => walk_at "mm"); (case zzm13 => walk_at "mm"); (case zzm14 => walk_at "mm"); (case zzm15 => walk_at "mm"); (case zzm16 => walk_at "mm"); (case zzm17 => walk_at "mm"); (case zzm18 => walk_at "mm"); (case zzm19 => walk_at "mm"); (case zzm20 => walk_at "mm"); (case zzm21 => walk_at "mm"); (case zzm22 => walk_at "mm"); (case zzm23 => walk_at "mm"); (case zzm24 => walk_at "mm"); (case zzhZ => assumption); (case zzhF0 => assumption); (case zzhF1 => assumption); (case zzhG0 => assumption); (case zzhG1 => assumption); (case zzlF0 => first | assumption | exact (show Row256 _ from by assumption).1); (case zzlF1 => first | assumption | exact (show Row256 _ from by assumption).1); (case zzlG0 => first | assumption | exact (show Row256 _ from by assumption).1); (case zzlG1 => first | assumption | exact (show Row256 _ from by assumption).1); (case zzsF0 => first | assumption | exact small_of (show Row256 _ from by assumption).2); (case zzsF1 => first | assumption | exact small_of (show Row256 _ from by assumption).2); (case zzsG0 => first | assumption | exact small_of (show Row256 _ from by assumption).2); (case zzsG1 => first | assumption | exact small_of (show Row256 _ from by assumption).2); (case zzd1 => ktr_room); (case zzd2 => first | assumption | decide); k_whole); (intro x9 dx9 D9 a9 y9 dy9 c9 t9 u9 v9 kd9 ka9 w9 z9 its9 kk9 h9 tk9 gs9 ps9 qs9 ht9 hq9 hI9 F9 N9 g1 g2 g3 g4 g5 g6 g7 hb9); (try dsimp only at N9); (try dsimp only at g1); (try dsimp only at g2); (try dsimp only at g3); (try dsimp only at g4); (try dsimp only at g5); (try dsimp only at g6); (try dsimp only at g7))) | (with_reducible (k_here; (with_reducible show wpAny _ _ (call (Value.ref _) [Value.ref _, Value.bool _]) _ _ _); k_dflt (refine' mod_two ?zzk1 ?zzk2 ?zzk3 ?zzk4 ?zzk5 ?zzk6 ?zzu1 ?zzt1 ?zzm1 ?zzm2 ?zzm3 ?zzm4 ?zzm5 ?zzm6 ?zzd1 ?_; (case zzk1 => k_asm); (case zzk2 => k_asm); (case zzk3 => k_asm); (case zzk4 => k_asm); (case zzk5 => k_asm); (case zzk6 => first | exact rfl | assumption); (case zzu1 => k_updF); (case zzt1 => first | assumption | exact True.intro); (case zzm1 => walk_at "mm"); (case zzm2 => walk_at "mm"); (case zzm3 => walk_at "mm"); (case zzm4 => walk_at "mm"); (case zzm5 => walk_at "mm"); (case zzm6 => walk_at "mm"); (case zzd1 => ktr_room); k_whole); (intro x9 dx9 t9 u9 v9 h9 tk9 gs9 ps9 ht9 g9 gg9 F9 N9 k9 hb9; clear k9); (try dsimp only at g9); (try dsimp only at gg9); (try dsimp only at N9))) | (with_reducible (k_here; (with_reducible show wpAny _ _ (call (Value.ref 662) _ _) _ _ _); (k_dflt (show wpAny _ _ (call (Value.ref 662) [Value.ref _, Value.ref _] [(Str.ofString "transpose", Value.bool _)]) _ _ _)); k_dflt (refine' mat_use ?zzk1 ?zzk2 ?zzk3 ?zzk4 ?zzk5 ?zzk6 ?zzm1 ?zzm2 ?zzm3 ?zzm4 ?zzz1 ?zzd1 ?_; (case zzk1 => k_asm); (case zzk2 => k_asm); (case zzk3 => k_asm); (case zzk4 => k_asm); (case zzk5 => k_asm); (case zzk6 => first | exact rfl | assumption); (case zzm1 => walk_at "mm"); (case zzm2 => walk_at "mm"); (case zzm3 => walk_at "mm"); (case zzm4 => walk_at "mm"); (case zzz1 => first | assumption | exact (show (2 : Nat) < 8 from by decide) | exact (show (1 : Nat) < 8 from by decide)); (case zzd1 => ktr_room); k_whole); (intro x9 dx9 t9 u9 v9 h9 tk9 g9 gg9 F9 N9 k9; clear k9); (try k_sweep))) | (with_reducible (k_here; (first | (with_reducible show wpAny _ _ (call (Value.ref _) [Value.ref _] (List.zip _ _)) _ _ _) | (with_reducible show wpAny _ _ (call (Value.ref _) [Value.ref _] [(_, Value.bool true)]) _ _ _) | (with_reducible show wpAny _ _ (call (Value.ref _) ([] ++ [Value.ref _]) (List.zip _ _)) _ _ _)); (k_dflt (show wpAny _ _ (call (Value.ref _) [Value.ref _] [(Str.ofString "is_ntt", Value.bool true)]) _ _ _)); k_dflt (refine' mk_use ?zzk1 ?zzk2 ?zzk3 ?zzk4 ?zzk5 ?zzk6 ?zzm1 ?zzm2 ?zzm3 ?zzi1 ?zzn1 ?zzd1 ?_; (case zzk1 => k_asm); (case zzk2 => k_asm); (case zzk3 => k_asm); (case zzk4 => k_asm); (case zzk5 => k_asm); (case zzk6 => first | exact rfl | assumption); (case zzm1 => walk_at "mm"); (case zzm2 => walk_at "mm"); (case zzm3 => walk_at "mm"); (case zzi1 => assumption); (case zzn1 => first | assumption | exact mulP_len _ _ _ | exact (show Row256 _ from by assumption).1); (case zzd1 => ktr_room); k_whole); (intro x9 dx9 u9 v9 h9 tk9 g9 gg9 F9 N9 k9; clear k9); (try k_sweep))) | (with_reducible (k_here; (with_reducible show wpAny _ _ (call (Value.ref 694) _) _ _ _); k_dflt (refine' root_con ?zzk1 ?zzk2 ?zzk3 ?zzk5 ?zzk6 _ _ ?zzi1 ?zzi2 ?zzd1 ?_; (case zzk1 => k_asm); (case zzk2 => k_asm); (case zzk3 => k_asm); (case zzk5 => k_asm); (case zzk6 => first | exact rfl | assumption); (case zzi1 => omega); (case zzi2 => omega); (case zzd1 => ktr_room); k_whole); (intro t9 h9 tk9 k9; have F9 := Fr.stays (by assumption) k9; have N9 := News.stays (by assumption) k9; clear k9))) | (with_reducible (k_here; (with_reducible show wpAny _ _ (call (Value.ref 687) _) _ _ _); k_dflt (refine' take_use ?zzk1 ?zzk2 ?zzk3 ?zzk4 ?zzk5 ?zzk6 ?zzu1 ?zzu2 ?zzi1 ?zzi2 ?zzi3 ?zzi4 ?zzi5 ?zzi6 ?zzi7 ?zzi8 ?zzi9 ?zzd1 ?_; (case zzk1 => k_asm); (case zzk2 => k_asm); (case zzk3 => k_asm); (case zzk4 => k_asm); (case zzk5 => k_asm); (case zzk6 => first | exact rfl | assumption); (case zzu1 => k_updF); (case zzu2 => (intro o9; (try dsimp only); k_updF)); (case zzi1 => assumption); (case zzi2 => assumption); (case zzi3 => omega); (case zzi4 => omega); (case zzi5 => omega); (case zzi6 => omega); (case zzi7 => omega); (case zzi8 => omega); (case zzi9 => k_ne); (case zzd1 => ktr_room); k_whole); (intro r9 t9 n9 tn9 vs9 ns9 h9 tk9 ra9 rb9 na9 nb9 hi9 hl9 hp9 F9 N9); (try dsimp only at N9); (try k_sweep))) | (with_reducible (k_here; (with_reducible show wpAny _ _ (call (Value.ref 699) _) _ _ _); k_dflt (refine' full_use ?zzk1 ?zzk2 ?zzk3 ?zzk4 ?zzk5 ?zzk6 ?zzu1 ?zzu2 ?zzi1 ?zzi2 ?zzi3 ?zzi4 ?zzi5 ?zzi6 ?zzi9 ?zzd1 ?_; (case zzk1 => k_asm); (case zzk2 => k_asm); (case zzk3 => k_asm); (case zzk4 => k_asm); (case zzk5 => k_asm); (case zzk6 => first | exact rfl | assumption); (case zzu1 => k_updF); (case zzu2 => (intro o9; (try dsimp only); k_updF)); (case zzi1 => assumption); (case zzi2 => assumption); (case zzi3 => omega); (case zzi4 => omega); (case zzi5 => omega); (case zzi6 => omega); (case zzi9 => k_ne); (case zzd1 => ktr_room); k_whole); (intro r9 ys9 c9 kk9 n9 tn9 vs9 ns9 h9 tk9 ya9 ro9 na9 nb9 hi9 hl9 hp9 F9 N9 g9); (try dsimp only at N9); (try dsimp only at g9))) | (with_reducible (k_here; (with_reducible show wpAny _ _ (call (Value.ref 437) _) _ _ _); k_dflt (refine' ring_use ?zzk1 ?zzk2 ?zzk3 ?zzk4 ?zzk5 ?zzk6 ?zzd1 ?_; (case zzk1 => k_asm); (case zzk2 => k_asm); (case zzk3 => k_asm); (case zzk4 => k_asm); (case zzk5 => k_asm); (case zzk6 => first | exact rfl | assumption); (case zzd1 => ktr_room); k_whole); (intro x9 dx9 z9 zs9 kz9 a9 b9 c9 d9 e9 f9 g9 h9 tk9 i9 l9 ll9 n9 F9 N9; (try dsimp only at l9); (try k_lt l9); (try k_lt2 ll9)))) | (with_reducible (k_here; (with_reducible show wpAny _ _ (call (Value.ref 680) _) _ _ _); k_dflt (refine' state_use ?zzk1 ?zzk2 ?zzk3 ?zzk4 ?zzk5 ?zzk6 ?zzl1 ?zzl2 ?zzl3 ?zzd1 ?_; (case zzk1 => k_asm); (case zzk2 => k_asm); (case zzk3 => k_asm); (case zzk4 => k_asm); (case zzk5 => k_asm); (case zzk6 => first | exact rfl | assumption); (case zzl1 => assumption); (case zzl2 => assumption); (case zzl3 => assumption); (case zzd1 => ktr_room); k_whole); (intro st9 ce9 vs9 ns9 t9 k19 k29 h9 tk9 i9 p9 q9 z9 n9 g9 gg9 F9 N9)))) | ((with_reducible show wpAny _ _ (compareOp _ (Value.ref _) (Value.ref _)) _ _ _); (with_reducible (k_here; (with_reducible show wpAny _ _ (compareOp CmpOp.Eq (Value.ref _) (Value.ref _)) _ _ _); k_dflt (refine' eq_same ?zzN ?zzm1 ?zzm2 ?zzhi ?zzhj ?zzhu ?_; (case zzN => k_asm); (case zzm1 => k_mem); (case zzm2 => k_mem); (case zzhi => assumption); (case zzhj => assumption); (case zzhu => units_room); k_whole)))) | ((with_reducible show wpAny _ _ (compareOp _ (Value.ref _) (Value.ref _)) _ _ _); (with_reducible (k_here; (with_reducible show wpAny _ _ (compareOp CmpOp.NotEq (Value.ref _) (Value.ref _)) _ _ _); k_dflt (refine' ne_pair ?zzN ?zzm1 ?zzm2 ?zzex ?zzey ?zzhu ?_; (case zzN => k_asm); (case zzm1 => k_mem); (case zzm2 => k_mem); (case zzex => exact told_first _ _ _ _ (by assumption) (by assumption)); (case zzey => exact told_second _ _ _ _ (by assumption) (by assumption)); (case zzhu => units_room); k_whole)))) | ((with_reducible show wpAny _ _ (subscriptTail _ _ _ _) _ _ _); (with_reducible (k_here; (with_reducible show wpAny _ _ (subscriptTail _ _ (Value.ref _) (Value.int _ _)) _ _ _); k_dflt (refine' item_lit ?zzk1 ?zzk2 ?zzk3 ?zzk4 ?zzk5 ?_ ?zzk6; (case zzk1 => k_asm); (case zzk2 => first | k_mem | (repeat (first | with_reducible assumption | with_reducible refine List.mem_cons_of_mem _ ?_))); (case zzk3 => decide); (case zzk4 => exact rfl); (case zzk5 => first | exact (show (4 : Nat) < 8 from by decide) | exact (show (2 : Nat) < 8 from by decide)); (case zzk6 => with_unfolding_all rfl); k_whole)))) | ((with_reducible show wpAny _ _ (subscriptTail _ _ _ _) _ _ _); (with_reducible (k_here; (with_reducible show wpAny _ _ (subscriptTail (PySem.Expr.Subscript _ _ _) (PySem.Expr.Slice _ _ none _) (Value.ref _) (Value.ref _)) _ _ _); k_dflt (refine kba_turn (value' := PySem.Expr.Name (PySem.Str.ofString "_") ⟨0, 0, 0, 0⟩) (fun _ => rfl) ?_)))) | ((with_reducible show wpAny _ _ (subscriptTail _ _ _ _) _ _ _); (with_reducible (k_here; (with_reducible show wpAny _ _ (subscriptTail _ (PySem.Expr.Slice _ _ none _) (Value.ref _) (Value.ref _)) _ _ _); k_dflt (refine' slice_pair ?zzF ?zzN ?zzm ?zzi ?zzl ?zzh0 ?zzh1 ?zzh2 ?_ ?zzs ?zzt; (case zzF => k_asm); (case zzN => k_asm); (case zzm => first | k_mem | (repeat (first | with_reducible assumption | with_reducible refine List.mem_cons_of_mem _ ?_))); (case zzi => assumption); (case zzl => first | assumption | exact (show Row256 _ from by assumption).1 | exact addP_len _ _); (case zzh0 => omega); (case zzh1 => omega); (case zzh2 => omega); (case zzs => with_unfolding_all rfl); (case zzt => kmk_pure)); intro D9 u9 v9 h9 F9 N9 l9; (try dsimp only at l9); (try k_lt l9)))) | ((with_reducible show wpAny _ _ (getMethod (Value.ref _) _ _) _ _ _); (with_reducible (k_here; (first | (with_reducible show wpAny _ _ (getMethod (Value.ref _) (PySem.Str.ofString "ring") _) _ _ _) | (with_reducible show wpAny _ _ (getMethod (Value.ref _) (PySem.Str.ofString "parent") _) _ _ _)); k_dflt (refine' kmu_own ?zzk1 ?zzk2 ?zzk3 ?zzk4 ?zzk5 ?_; (case zzk1 => k_asm); (case zzk2 => k_asm); (case zzk3 => k_inst); (case zzk4 => k_is); (case zzk5 => k_is); k_whole)))) | ((with_reducible show wpAny _ _ (getAttr (Value.ref _) _ _) _ _ _); (with_reducible (k_here; k_dflt (refine' get_own ?zzk1 ?zzk2 ?zzk3 ?zzk4 ?zzk5 ?zzk6 ?zzk7 ?zzk8 ?zzk9 ?_; (case zzk1 => k_asm); (case zzk2 => k_asm); (case zzk3 => k_inst); (case zzk4 => k_is); (case zzk5 => k_is); (case zzk6 => k_is); (case zzk7 => k_is); (case zzk8 => k_get); (case zzk9 => k_handed); k_whole)))) | ((with_reducible show wpAny _ _ (call (Value.type "list") _ _) _ _ _); (with_reducible (k_here; (with_reducible show wpAny _ _ (call (Value.type "list") [Value.ref _]) _ _ _); k_dflt (refine' listcopy_use ?zzk1 ?zzk2 ?zzm1 ?zzi1 ?zzr1 ?_; (case zzk1 => k_asm); (case zzk2 => k_asm); (case zzm1 => k_mem); (case zzi1 => assumption); (case zzr1 => assumption); k_whole); (intro D9 c9 h9 F9 N9 l9; (try dsimp only at l9); (try k_lt l9))))) | ((with_reducible show wpAny _ _ (exec (Stmt.Assign _ _ _) _) _ _ _); (with_reducible (k_here; k_dflt (refine LCg.Assign_ListComp_U (F₀ := by k_asm) (by rfl) (by with_unfolding_all rfl) (by rfl) (by decide) (by rfl) (by decide) (by rfl) (by rfl) (by rfl) ?_)))) | ((with_reducible show wpAny _ _ (binaryOp _ (Value.ref _) (Value.ref _)) _ _ _); (with_reducible (k_here; (with_reducible show wpAny _ _ (binaryOp _ (Value.ref _) (Value.ref _)) _ _ _); k_dflt (refine' binop_K ?zzk1 ?zzk2 ?zzk3 ?zzk4 ?zzk5 ?zzk6 ?zzk7 ?_; (case zzk1 => k_asm); (case zzk2 => k_asm); (case zzk3 => k_inst); (case zzk4 => k_typeOf); (case zzk5 => k_is); (case zzk6 => k_is); (case zzk7 => k_is); k_whole)))) | ((with_reducible show wpAny _ _ (callWith _ (Value.ref _) _ _ _) _ _ _); (with_reducible (k_here; k_dflt (refine' callWith_ownKW ?zzk1 ?zzk2 ?zzk3 ?zzk4 ?zzk5 ?_; (case zzk1 => k_in); (case zzk2 => k_inst); (case zzk3 => rfl); (case zzk4 => k_is); (case zzk5 => exact rfl); k_whole)))) | ((with_reducible show wpAny _ _ (setItem (Value.ref _) (Value.int _ _) _) _ _ _); (with_reducible (k_here; (with_reducible show wpAny _ _ (setItem (Value.ref _) (Value.int _ _) _) _ _ _); k_dflt (refine' set_here ?zzk1 ?zzk2 ?zzk3 ?zzk4 ?zzk5 ?zzk6 ?zzk7 ?_; (case zzk1 => k_asm); (case zzk2 => k_asm); (case zzk3 => k_upd); (case zzk4 => decide); (case zzk5 => simp; done); (case zzk6 => decide); (case zzk7 => exact rfl); k_whole); intro h' F' N'; (simp only [List.setIfInBounds_toArray, Int.toNat_zero, Int.reduceToNat, List.set_cons_zero, List.set_cons_succ] at N'); (try k_sweep)))) | ((with_reducible show wpAny _ _ (getMethod (Value.ref _) _ _) _ _ _); (with_reducible (k_here; k_dflt (first | (refine' method_inst ?zzk1 ?zzk2 ?zzk3 ?zzk4 ?zzk5 ?zzk6 ?zzk7 ?_; (case zzk1 => k_asm); (case zzk2 => k_asm); (case zzk3 => k_inst); (case zzk4 => k_is); (case zzk5 => k_is); (case zzk6 => k_is); (case zzk7 => k_get); k_whole) | (refine' kmu_own ?zzk1 ?zzk2 ?zzk3 ?zzk4 ?zzk5 ?_; (case zzk1 => k_asm); (case zzk2 => k_asm); (case zzk3 => k_inst); (case zzk4 => k_is); (case zzk5 => k_is); k_whole) | (refine' kmu_sm ?zzk1 ?zzk2 ?zzk4 ?zzk5 ?zzk6 ?zzk7 ?zzk8 ?zzk9 ?zzk10 ?zzk11 ?zzk12 ?zzk13 ?zzk14 ?_; (case zzk1 => k_asm); (case zzk2 => k_asm); (case zzk4 => k_inst); (case zzk5 => k_is); (case zzk6 => k_is); (case zzk7 => k_is); (case zzk8 => k_is); (case zzk9 => k_is); (case zzk10 => k_is); (case zzk11 => decide +kernel); (case zzk12 => k_get); (case zzk13 => k_is); (case zzk14 => k_handed); k_whole))))) | walk1 | dsimp only))
        rename_i z9_2 kk9_4 c9_9 h9_1 tk_3 h'_1 F'_1 N'_1
        clear tk9 h9
        exact by
          w_top off
          repeat' ((fail_if_success (with_reducible show wpAny _ _ (pyIter _) _ _ _)); (first | (k_unfold; (try dsimp only)) | ((with_reducible refine qb1 ?_); (try dsimp only)) | ((with_reducible refine qb2 ?_); (try dsimp only)) | ((with_reducible refine qa1 ?_); (try dsimp only)) | ((with_reducible refine qa2 ?_); (try dsimp only [List.cons_append, List.nil_append])) | ((with_reducible refine qs1 ?_); (try dsimp only)) | ((with_reducible refine qs2 ?_); (try dsimp only)) | (with_reducible refine qs3 ?_) | (with_reducible refine qs4 ?_) | ((with_reducible refine qc1 ?_); (try dsimp only)) | ((with_reducible refine qu1 ?_); (try dsimp only)) | (with_reducible refine qu2 ?_) | ((with_reducible refine qg1 ?_); (try dsimp only)) | (with_reducible refine qg2 ?_) | ((with_reducible refine qt1 ?_); (try dsimp only)) | ((with_reducible refine qr1 ?_); (try dsimp only)) | (with_reducible refine qb0 ?_) | (with_reducible refine qu0 ?_) | ((with_reducible show wpAny _ _ (spliced (backTo _ (starEach (_ :: _) _))) _ _ _); k_dflt (refine qa0 ?_)) | ((with_reducible show wpAny _ _ (execs (_ :: _) _) _ _ _); first | (k_here; k_gentoks) | (with_reducible refine qs0 ?_)) | ((with_reducible show wpAny _ _ (eval (PySem.Expr.Call (PySem.Expr.Name _ _) _ [] _) _) _ _ _); (fail_if_success (with_reducible show wpAny _ _ (eval _ (compEnvC _ _ _ _)) _ _ _)); k_dflt (refine qc0 ?_)) | ((with_reducible show wpAny _ _ (exec (Stmt.Assign [PySem.Expr.Name _ _] _ _) _) _ _ _); (fail_if_success (with_reducible show wpAny _ _ (exec (Stmt.Assign _ (PySem.Expr.ListComp _ _ _ _) _) _) _ _ _)); k_dflt (refine qg0 ?_)) | ((with_reducible show wpAny _ _ (eval (PySem.Expr.Attribute (PySem.Expr.Name _ _) _ _) _) _ _ _); k_dflt (refine qt0 ?_)) | (with_reducible refine qr0 ?_) | ((with_reducible show wpAny _ _ (call (Value.ref _) _ _) _ _ _); first | (with_reducible (k_here; (with_reducible show wpAny _ _ (call (Value.ref 330) _) _ _ _); k_dflt (refine' dot_use ?zzk1 ?zzk2 ?zzk3 ?zzk4 ?zzk5 ?zzk6 ?zzu1 ?zzu2 ?zzt1 ?zzt2 ?zzm0 ?zzm1 ?zzm2 ?zzm3 ?zzm4 ?zzm5 ?zzm6 ?zzm7 ?zzm8 ?zzm9 ?zzm10 ?zzm11 ?zzm12 ?zzm13 ?zzm14 ?zzm15 ?zzm16 ?zzm17 ?zzm18 ?zzm19 ?zzm20 ?zzm21 ?zzm22 ?zzm23 ?zzm24 ?zzhZ ?zzhF0 ?zzhF1 ?zzhG0 ?zzhG1 ?zzlF0 ?zzlF1 ?zzlG0 ?zzlG1 ?zzsF0 ?zzsF1 ?zzsG0 ?zzsG1 ?zzd1 ?zzd2 ?_; (case zzk1 => k_asm); (case zzk2 => k_asm); (case zzk3 => k_asm); (case zzk4 => k_asm); (case zzk5 => k_asm); (case zzk6 => first | exact rfl | assumption); (case zzu1 => k_updF); (case zzu2 => (intro o9; (try dsimp only); k_updF)); (case zzt1 => first | assumption | exact True.intro); (case zzt2 => first | assumption | exact True.intro); (case zzm0 => walk_at "mm"); (case zzm1 => walk_at "mm"); (case zzm2 => walk_at "mm"); (case zzm3 => walk_at "mm"); (case zzm4 => walk_at "mm"); (case zzm5 => walk_at "mm"); (case zzm6 => walk_at "mm"); (case zzm7 => walk_at "mm"); (case zzm8 => walk_at "mm"); (case zzm9 => walk_at "mm"); (case zzm10 => walk_at "mm"); (case zzm11 => walk_at "mm"); (case zzm12 => walk_at "mm"); (case zzm13 => walk_at "mm"); (case zzm14 => walk_at "mm"); (case zzm15 => walk_at "mm"); (case zzm16 => walk_at "mm"); (case zzm17 => walk_at "mm"); (case zzm18 => walk_at "mm"); (case zzm19 => walk_at "mm"); (case zzm20 => walk_at "mm"); (case zzm21 => walk_at "mm"); (case zzm22 => walk_at "mm"); (case zzm23 => walk_at "mm"); (case zzm24 => walk_at "mm"); (case zzhZ => assumption); (case zzhF0 => assumption); (case zzhF1 => assumption); (case zzhG0 => assumption); (case zzhG1 => assumption); (case zzlF0 => first | assumption | exact (show Row256 _ from by assumption).1); (case zzlF1 => first | assumption | exact (show Row256 _ from by assumption).1); (case zzlG0 => first | assumption | exact (show Row256 _ from by assumption).1); (case zzlG1 => first | assumption | exact (show Row256 _ from by assumption).1); (case zzsF0 => first | assumption | exact small_of (show Row256 _ from by assumption).2); (case zzsF1 => first | assumption | exact small_of (show Row256 _ from by assumption).2); (case zzsG0 => first | assumption | exact small_of (show Row256 _ from by assumption).2); (case zzsG1 => first | assumption | exact small_of (show Row256 _ from by assumption).2); (case zzd1 => ktr_room); (case zzd2 => first | assumption | decide); k_whole); (intro y9 dy9 c9 w9 z9 its9 kk9 h9 tk9 gs9 ps9 qs9 ht9 hq9 hI9 F9 N9 g5 g6 g7 hb9); (try dsimp only at N9); (try dsimp only at g5); (try dsimp only at g6); (try dsimp only at g7))) | (with_reducible (k_here; (with_reducible show wpAny _ _ (call (Value.ref 323) _) _ _ _); k_dflt (refine' matmul_use ?zzk1 ?zzk2 ?zzk3 ?zzk4 ?zzk5 ?zzk6 ?zzu1 ?zzu2 ?zzt1 ?zzt2 ?zzm0 ?zzm1 ?zzm2 ?zzm3 ?zzm4 ?zzm5 ?zzm6 ?zzm7 ?zzm8 ?zzm9 ?zzm10 ?zzm11 ?zzm12 ?zzm13 ?zzm14 ?zzm15 ?zzm16 ?zzm17 ?zzm18 ?zzm19 ?zzm20 ?zzm21 ?zzm22 ?zzm23 ?zzm24 ?zzhZ ?zzhF0 ?zzhF1 ?zzhG0 ?zzhG1 ?zzlF0 ?zzlF1 ?zzlG0 ?zzlG1 ?zzsF0 ?zzsF1 ?zzsG0 ?zzsG1 ?zzd1 ?zzd2 ?_; (case zzk1 => k_asm); (case zzk2 => k_asm); (case zzk3 => k_asm); (case zzk4 => k_asm); (case zzk5 => k_asm); (case zzk6 => first | exact rfl | assumption); (case zzu1 => k_updF); (case zzu2 => (intro o9; (try dsimp only); k_updF)); (case zzt1 => first | assumption | exact True.intro); (case zzt2 => first | assumption | exact True.intro); (case zzm0 => walk_at "mm"); (case zzm1 => walk_at "mm"); (case zzm2 => walk_at "mm"); (case zzm3 => walk_at "mm"); (case zzm4 => walk_at "mm"); (case zzm5 => walk_at "mm"); (case zzm6 => walk_at "mm"); (case zzm7 => walk_at "mm"); (case zzm8 => walk_at "mm"); (case zzm9 => walk_at "mm"); (case zzm10 => walk_at "mm"); (case zzm11 => walk_at "mm"); (case zzm12 => walk_at "mm"); (case zzm13 => walk_at "mm"); (case zzm14 => walk_at "mm"); (case zzm15 => walk_at "mm"); (case zzm16 => walk_at "mm"); (case zzm17 => walk_at "mm"); (case zzm18 => walk_at "mm"); (case zzm19 => walk_at "mm"); (case zzm20 => walk_at "mm"); (case zzm21 => walk_at "mm"); (case zzm22 => walk_at "mm"); (case zzm23 => walk_at "mm"); (case zzm24 => walk_at "mm"); (case zzhZ => assumption); (case zzhF0 => assumption); (case zzhF1 => assumption); (case zzhG0 => assumption); (case zzhG1 => assumption); (case zzlF0 => first | assumption | exact (show Row256 _ from by assumption).1); (case zzlF1 => first | assumption | exact (show Row256 _ from by assumption).1); (case zzlG0 => first | assumption | exact (show Row256 _ from by assumption).1); (case zzlG1 => first | assumption | exact (show Row256 _ from by assumption).1); (case zzsF0 => first | assumption | exact small_of (show Row256 _ from by assumption).2); (case zzsF1 => first | assumption | exact small_of (show Row256 _ from by assumption).2); (case zzsG0 => first | assumption | exact small_of (show Row256 _ from by assumption).2); (case zzsG1 => first | assumption | exact small_of (show Row256 _ from by assumption).2); (case zzd1 => ktr_room); (case zzd2 => first | assumption | decide); k_whole); (intro x9 dx9 D9 a9 y9 dy9 c9 t9 u9 v9 kd9 ka9 w9 z9 its9 kk9 h9 tk9 gs9 ps9 qs9 ht9 hq9 hI9 F9 N9 g1 g2 g3 g4 g5 g6 g7 hb9); (try dsimp only at N9); (try dsimp only at g1); (try dsimp only at g2); (try dsimp only at g3); (try dsimp only at g4); (try dsimp only at g5); (try dsimp only at g6); (try dsimp only at g7))) | (with_reducible (k_here; (with_reducible show wpAny _ _ (call (Value.ref _) [Value.ref _, Value.bool _]) _ _ _); k_dflt (refine' mod_two ?zzk1 ?zzk2 ?zzk3 ?zzk4 ?zzk5 ?zzk6 ?zzu1 ?zzt1 ?zzm1 ?zzm2 ?zzm3 ?zzm4 ?zzm5 ?zzm6 ?zzd1 ?_; (case zzk1 => k_asm); (case zzk2 => k_asm); (case zzk3 => k_asm); (case zzk4 => k_asm); (case zzk5 => k_asm); (case zzk6 => first | exact rfl | assumption); (case zzu1 => k_updF); (case zzt1 => first | assumption | exact True.intro); (case zzm1 => walk_at "mm"); (case zzm2 => walk_at "mm"); (case zzm3 => walk_at "mm"); (case zzm4 => walk_at "mm"); (case zzm5 => walk_at "mm"); (case zzm6 => walk_at "mm"); (case zzd1 => ktr_room); k_whole); (intro x9 dx9 t9 u9 v9 h9 tk9 gs9 ps9 ht9 g9 gg9 F9 N9 k9 hb9; clear k9); (try dsimp only at g9); (try dsimp only at gg9); (try dsimp only at N9))) | (with_reducible (k_here; (with_reducible show wpAny _ _ (call (Value.ref 662) _ _) _ _ _); (k_dflt (show wpAny _ _ (call (Value.ref 662) [Value.ref _, Value.ref _] [(Str.ofString "transpose", Value.bool _)]) _ _ _)); k_dflt (refine' mat_use ?zzk1 ?zzk2 ?zzk3 ?zzk4 ?zzk5 ?zzk6 ?zzm1 ?zzm2 ?zzm3 ?zzm4 ?zzz1 ?zzd1 ?_; (case zzk1 => k_asm); (case zzk2 => k_asm); (case zzk3 => k_asm); (case zzk4 => k_asm); (case zzk5 => k_asm); (case zzk6 => first | exact rfl | assumption); (case zzm1 => walk_at "mm"); (case zzm2 => walk_at "mm"); (case zzm3 => walk_at "mm"); (case zzm4 => walk_at "mm"); (case zzz1 => first | assumption | exact (show (2 : Nat) < 8 from by decide) | exact (show (1 : Nat) < 8 from by decide)); (case zzd1 => ktr_room); k_whole); (intro x9 dx9 t9 u9 v9 h9 tk9 g9 gg9 F9 N9 k9; clear k9); (try k_sweep))) | (with_reducible (k_here; (first | (with_reducible show wpAny _ _ (call (Value.ref _) [Value.ref _] (List.zip _ _)) _ _ _) | (with_reducible show wpAny _ _ (call (Value.ref _) [Value.ref _] [(_, Value.bool true)]) _ _ _) | (with_reducible show wpAny _ _ (call (Value.ref _) ([] ++ [Value.ref _]) (List.zip _ _)) _ _ _)); (k_dflt (show wpAny _ _ (call (Value.ref _) [Value.ref _] [(Str.ofString "is_ntt", Value.bool true)]) _ _ _)); k_dflt (refine' mk_use ?zzk1 ?zzk2 ?zzk3 ?zzk4 ?zzk5 ?zzk6 ?zzm1 ?zzm2 ?zzm3 ?zzi1 ?zzn1 ?zzd1 ?_; (case zzk1 => k_asm); (case zzk2 => k_asm); (case zzk3 => k_asm); (case zzk4 => k_asm); (case zzk5 => k_asm); (case zzk6 => first | exact rfl | assumption); (case zzm1 => walk_at "mm"); (case zzm2 => walk_at "mm"); (case zzm3 => walk_at "mm"); (case zzi1 => assumption); (case zzn1 => first | assumption | exact mulP_len _ _ _ | exact (show Row256 _ from by assumption).1); (case zzd1 => ktr_room); k_whole); (intro x9 dx9 u9 v9 h9 tk9 g9 gg9 F9 N9 k9; clear k9); (try k_sweep))) | (with_reducible (k_here; (with_reducible show wpAny _ _ (call (Value.ref 694) _) _ _ _); k_dflt (refine' root_con ?zzk1 ?zzk2 ?zzk3 ?zzk5 ?zzk6 _ _ ?zzi1 ?zzi2 ?zzd1 ?_; (case zzk1 => k_asm); (case zzk2 => k_asm); (case zzk3 => k_asm); (case zzk5 => k_asm); (case zzk6 => first | exact rfl | assumption); (case zzi1 => omega); (case zzi2 => omega); (case zzd1 => ktr_room); k_whole); (intro t9 h9 tk9 k9; have F9 := Fr.stays (by assumption) k9; have N9 := News.stays (by assumption) k9; clear k9))) | (with_reducible (k_here; (with_reducible show wpAny _ _ (call (Value.ref 687) _) _ _ _); k_dflt (refine' take_use ?zzk1 ?zzk2 ?zzk3 ?zzk4 ?zzk5 ?zzk6 ?zzu1 ?zzu2 ?zzi1 ?zzi2 ?zzi3 ?zzi4 ?zzi5 ?zzi6 ?zzi7 ?zzi8 ?zzi9 ?zzd1 ?_; (case zzk1 => k_asm); (case zzk2 => k_asm); (case zzk3 => k_asm); (case zzk4 => k_asm); (case zzk5 => k_asm); (case zzk6 => first | exact rfl | assumption); (case zzu1 => k_updF); (case zzu2 => (intro o9; (try dsimp only); k_updF)); (case zzi1 => assumption); (case zzi2 => assumption); (case zzi3 => omega); (case zzi4 => omega); (case zzi5 => omega); (case zzi6 => omega); (case zzi7 => omega); (case zzi8 => omega); (case zzi9 => k_ne); (case zzd1 => ktr_room); k_whole); (intro r9 t9 n9 tn9 vs9 ns9 h9 tk9 ra9 rb9 na9 nb9 hi9 hl9 hp9 F9 N9); (try dsimp only at N9); (try k_sweep))) | (with_reducible (k_here; (with_reducible show wpAny _ _ (call (Value.ref 699) _) _ _ _); k_dflt (refine' full_use ?zzk1 ?zzk2 ?zzk3 ?zzk4 ?zzk5 ?zzk6 ?zzu1 ?zzu2 ?zzi1 ?zzi2 ?zzi3 ?zzi4 ?zzi5 ?zzi6 ?zzi9 ?zzd1 ?_; (case zzk1 => k_asm); (case zzk2 => k_asm); (case zzk3 => k_asm); (case zzk4 => k_asm); (case zzk5 => k_asm); (case zzk6 => first | exact rfl | assumption); (case zzu1 => k_updF); (case zzu2 => (intro o9; (try dsimp only); k_updF)); (case zzi1 => assumption); (case zzi2 => assumption); (case zzi3 => omega); (case zzi4 => omega); (case zzi5 => omega); (case zzi6 => omega); (case zzi9 => k_ne); (case zzd1 => ktr_room); k_whole); (intro r9 ys9 c9 kk9 n9 tn9 vs9 ns9 h9 tk9 ya9 ro9 na9 nb9 hi9 hl9 hp9 F9 N9 g9); (try dsimp only at N9); (try dsimp only at g9))) | (with_reducible (k_here; (with_reducible show wpAny _ _ (call (Value.ref 437) _) _ _ _); k_dflt (refine' ring_use ?zzk1 ?zzk2 ?zzk3 ?zzk4 ?zzk5 ?zzk6 ?zzd1 ?_; (case zzk1 => k_asm); (case zzk2 => k_asm); (case zzk3 => k_asm); (case zzk4 => k_asm); (case zzk5 => k_asm); (case zzk6 => first | exact rfl | assumption); (case zzd1 => ktr_room); k_whole); (intro x9 dx9 z9 zs9 kz9 a9 b9 c9 d9 e9 f9 g9 h9 tk9 i9 l9 ll9 n9 F9 N9; (try dsimp only at l9); (try k_lt l9); (try k_lt2 ll9)))) | (with_reducible (k_here; (with_reducible show wpAny _ _ (call (Value.ref 680) _) _ _ _); k_dflt (refine' state_use ?zzk1 ?zzk2 ?zzk3 ?zzk4 ?zzk5 ?zzk6 ?zzl1 ?zzl2 ?zzl3 ?zzd1 ?_; (case zzk1 => k_asm); (case zzk2 => k_asm); (case zzk3 => k_asm); (case zzk4 => k_asm); (case zzk5 => k_asm); (case zzk6 => first | exact rfl | assumption); (case zzl1 => assumption); (case zzl2 => assumption); (case zzl3 => assumption); (case zzd1 => ktr_room); k_whole); (intro st9 ce9 vs9 ns9 t9 k19 k29 h9 tk9 i9 p9 q9 z9 n9 g9 gg9 F9 N9)))) | ((with_reducible show wpAny _ _ (compareOp _ (Value.ref _) (Value.ref _)) _ _ _); (with_reducible (k_here; (with_reducible show wpAny _ _ (compareOp CmpOp.Eq (Value.ref _) (Value.ref _)) _ _ _); k_dflt (refine' eq_same ?zzN ?zzm1 ?zzm2 ?zzhi ?zzhj ?zzhu ?_; (case zzN => k_asm); (case zzm1 => k_mem); (case zzm2 => k_mem); (case zzhi => assumption); (case zzhj => assumption); (case zzhu => units_room); k_whole)))) | ((with_reducible show wpAny _ _ (compareOp _ (Value.ref _) (Value.ref _)) _ _ _); (with_reducible (k_here; (with_reducible show wpAny _ _ (compareOp CmpOp.NotEq (Value.ref _) (Value.ref _)) _ _ _); k_dflt (refine' ne_pair ?zzN ?zzm1 ?zzm2 ?zzex ?zzey ?zzhu ?_; (case zzN => k_asm); (case zzm1 => k_mem); (case zzm2 => k_mem); (case zzex => exact told_first _ _ _ _ (by assumption) (by assumption)); (case zzey => exact told_second _ _ _ _ (by assumption) (by assumption)); (case zzhu => units_room); k_whole)))) | ((with_reducible show wpAny _ _ (subscriptTail _ _ _ _) _ _ _); (with_reducible (k_here; (with_reducible show wpAny _ _ (subscriptTail _ _ (Value.ref _) (Value.int _ _)) _ _ _); k_dflt (refine' item_lit ?zzk1 ?zzk2 ?zzk3 ?zzk4 ?zzk5 ?_ ?zzk6; (case zzk1 => k_asm); (case zzk2 => first | k_mem | (repeat (first | with_reducible assumption | with_reducible refine List.mem_cons_of_mem _ ?_))); (case zzk3 => decide); (case zzk4 => exact rfl); (case zzk5 => first | exact (show (4 : Nat) < 8 from by decide) | exact (show (2 : Nat) < 8 from by decide)); (case zzk6 => with_unfolding_all rfl); k_whole)))) | ((with_reducible show wpAny _ _ (subscriptTail _ _ _ _) _ _ _); (with_reducible (k_here; (with_reducible show wpAny _ _ (subscriptTail (PySem.Expr.Subscript _ _ _) (PySem.Expr.Slice _ _ none _) (Value.ref _) (Value.ref _)) _ _ _); k_dflt (refine kba_turn (value' := PySem.Expr.Name (PySem.Str.ofString "_") ⟨0, 0, 0, 0⟩) (fun _ => rfl) ?_)))) | ((with_reducible show wpAny _ _ (subscriptTail _ _ _ _) _ _ _); (with_reducible (k_here; (with_reducible show wpAny _ _ (subscriptTail _ (PySem.Expr.Slice _ _ none _) (Value.ref _) (Value.ref _)) _ _ _); k_dflt (refine' slice_pair ?zzF ?zzN ?zzm ?zzi ?zzl ?zzh0 ?zzh1 ?zzh2 ?_ ?zzs ?zzt; (case zzF => k_asm); (case zzN => k_asm); (case zzm => first | k_mem | (repeat (first | with_reducible assumption | with_reducible refine List.mem_cons_of_mem _ ?_))); (case zzi => assumption); (case zzl => first | assumption | exact (show Row256 _ from by assumption).1 | exact addP_len _ _); (case zzh0 => omega); (case zzh1 => omega); (case zzh2 => omega); (case zzs => with_unfolding_all rfl); (case zzt => kmk_pure)); intro D9 u9 v9 h9 F9 N9 l9; (try dsimp only at l9); (try k_lt l9)))) | ((with_reducible show wpAny _ _ (getMethod (Value.ref _) _ _) _ _ _); (with_reducible (k_here; (first | (with_reducible show wpAny _ _ (getMethod (Value.ref _) (PySem.Str.ofString "ring") _) _ _ _) | (with_reducible show wpAny _ _ (getMethod (Value.ref _) (PySem.Str.ofString "parent") _) _ _ _)); k_dflt (refine' kmu_own ?zzk1 ?zzk2 ?zzk3 ?zzk4 ?zzk5 ?_; (case zzk1 => k_asm); (case zzk2 => k_asm); (case zzk3 => k_inst); (case zzk4 => k_is); (case zzk5 => k_is); k_whole)))) | ((with_reducible show wpAny _ _ (getAttr (Value.ref _) _ _) _ _ _); (with_reducible (k_here; k_dflt (refine' get_own ?zzk1 ?zzk2 ?zzk3 ?zzk4 ?zzk5 ?zzk6 ?zzk7 ?zzk8 ?zzk9 ?_; (case zzk1 => k_asm); (case zzk2 => k_asm); (case zzk3 => k_inst); (case zzk4 => k_is); (case zzk5 => k_is); (case zzk6 => k_is); (case zzk7 => k_is); (case zzk8 => k_get); (case zzk9 => k_handed); k_whole)))) | ((with_reducible show wpAny _ _ (call (Value.type "list") _ _) _ _ _); (with_reducible (k_here; (with_reducible show wpAny _ _ (call (Value.type "list") [Value.ref _]) _ _ _); k_dflt (refine' listcopy_use ?zzk1 ?zzk2 ?zzm1 ?zzi1 ?zzr1 ?_; (case zzk1 => k_asm); (case zzk2 => k_asm); (case zzm1 => k_mem); (case zzi1 => assumption); (case zzr1 => assumption); k_whole); (intro D9 c9 h9 F9 N9 l9; (try dsimp only at l9); (try k_lt l9))))) | ((with_reducible show wpAny _ _ (exec (Stmt.Assign _ _ _) _) _ _ _); (with_reducible (k_here; k_dflt (refine LCg.Assign_ListComp_U (F₀ := by k_asm) (by rfl) (by with_unfolding_all rfl) (by rfl) (by decide) (by rfl) (by decide) (by rfl) (by rfl) (by rfl) ?_)))) | ((with_reducible show wpAny _ _ (binaryOp _ (Value.ref _) (Value.ref _)) _ _ _); (with_reducible (k_here; (with_reducible show wpAny _ _ (binaryOp _ (Value.ref _) (Value.ref _)) _ _ _); k_dflt (refine' binop_K ?zzk1 ?zzk2 ?zzk3 ?zzk4 ?zzk5 ?zzk6 ?zzk7 ?_; (case zzk1 => k_asm); (case zzk2 => k_asm); (case zzk3 => k_inst); (case zzk4 => k_typeOf); (case zzk5 => k_is); (case zzk6 => k_is); (case zzk7 => k_is); k_whole)))) | ((with_reducible show wpAny _ _ (callWith _ (Value.ref _) _ _ _) _ _ _); (with_reducible (k_here; k_dflt (refine' callWith_ownKW ?zzk1 ?zzk2 ?zzk3 ?zzk4 ?zzk5 ?_; (case zzk1 => k_in); (case zzk2 => k_inst); (case zzk3 => rfl); (case zzk4 => k_is); (case zzk5 => exact rfl); k_whole)))) | ((with_reducible show wpAny _ _ (setItem (Value.ref _) (Value.int _ _) _) _ _ _); (with_reducible (k_here; (with_reducible show wpAny _ _ (setItem (Value.ref _) (Value.int _ _) _) _ _ _); k_dflt (refine' set_here ?zzk1 ?zzk2 ?zzk3 ?zzk4 ?zzk5 ?zzk6 ?zzk7 ?_; (case zzk1 => k_asm); (case zzk2 => k_asm); (case zzk3 => k_upd); (case zzk4 => decide); (case zzk5 => simp; done); (case zzk6 => decide); (case zzk7 => exact rfl); k_whole); intro h' F' N'; (simp only [List.setIfInBounds_toArray, Int.toNat_zero, Int.reduceToNat, List.set_cons_zero, List.set_cons_succ] at N'); (try k_sweep)))) | ((with_reducible show wpAny _ _ (getMethod (Value.ref _) _ _) _ _ _); (with_reducible (k_here; k_dflt (first | (refine' method_inst ?zzk1 ?zzk2 ?zzk3 ?zzk4 ?zzk5 ?zzk6 ?zzk7 ?_; (case zzk1 => k_asm); (case zzk2 => k_asm); (case zzk3 => k_inst); (case zzk4 => k_is); (case zzk5 => k_is); (case zzk6 => k_is); (case zzk7 => k_get); k_whole) | (refine' kmu_own ?zzk1 ?zzk2 ?zzk3 ?zzk4 ?zzk5 ?_; (case zzk1 => k_asm); (case zzk2 => k_asm); (case zzk3 => k_inst); (case zzk4 => k_is); (case zzk5 => k_is); k_whole) | (refine' kmu_sm ?zzk1 ?zzk2 ?zzk4 ?zzk5 ?zzk6 ?zzk7 ?zzk8 ?zzk9 ?zzk10 ?zzk11 ?zzk12 ?zzk13 ?zzk14 ?_; (case zzk1 => k_asm); (case zzk2 => k_asm); (case zzk4 => k_inst); (case zzk5 => k_is); (case zzk6 => k_is); (case zzk7 => k_is); (case zzk8 => k_is); (case zzk9 => k_is); (case zzk10 => k_is); (case zzk11 => decide +kernel); (case zzk12 => k_get); (case zzk13 => k_is); (case zzk14 => k_handed); k_whole))))) | walk1 | dsimp only))
          rename_i r9_4 n9_6 tn9_4 vs9_5 ns9_5 na9_4 nb9_4 hi9_4 hl9_4 hp9_4 t9_3 r9_5 t9_4 n9_7 tn9_5 vs9_6 ns9_6 h9_4 tk9_1 ra9_1 rb9_1 na9_5 nb9_5 hi9_5 hl9_5 hp9_5 l'_2 h'_2 F'_1 N'_1 gk'_11 l1_6
          clear tk9_1 h9_4 tn9_5 h'_1
          exact by
            w_top off
            rename Fr _ _ _ _ => F5
            rename News _ _ _ _ => N5
            with_unfolding_all refine' list_inv2 (Pv := fun v => ∃ p t, v = Value.int p t ∧ 0 ≤ p ∧ p < 128) PlaceJ ?zzhk ?zzhh ?zzhm ?zzhP F5 N5 ?zzj0 ?zzturn ?zzdone
            case zzhh => rfl
            case zzhm => k_mem
            case zzhk => exact fun m n j => mem_eq j.2 _ (by k_mem)
            case zzj0 => exact ⟨MapBut.refl _ _, rfl⟩
            case zzhP =>
              intro v hv
              rcases List.mem_cons.mp hv with rfl | hv
              · exact ⟨_, _, rfl, by decide, by decide⟩
              rcases List.mem_cons.mp hv with rfl | hv
              · exact ⟨_, _, rfl, by omega, by omega⟩
              rcases List.mem_cons.mp hv with rfl | hv
              · exact ⟨_, _, rfl, by omega, by omega⟩
              · cases hv
            case zzturn =>
              rintro I lI v m₁ news₁ it sT QT hit ⟨p, t, rfl, hp0, hp1⟩ ⟨hm, hs⟩ F1 N1
              have hJ := placeJ_of hm hs
              have hrows : m₁ (Str.ofString "rows") = some (.ref D'_4) := (hm _ rfl).trans rfl
              have htold : m₁ (Str.ofString "told") = some (.ref c9) := (hm _ rfl).trans rfl
              clear hm
              revert hJ
              generalize PlaceJ _ _ = J9
              intro hJ
              have lI' : ∀ p ∈ news₁, p.1 < I := hs.symm ▸ lI
              have hc : ∀ p ∈ news₁, NoR p.2 := by
                rw [hs]
                repeat (first | exact List.forall_mem_nil _ | refine List.forall_mem_cons.mpr ⟨by first | exact NoR.of_cell (by assumption) | exact NoR.of_cls (by first | k_cls | (intro e; cases e)), ?_⟩)
              have a0 := mem_eq hs (D'_4, _) (by k_mem)
              have a1 := mem_eq hs (r9_1, _) (by k_mem)
              have a2 := mem_eq hs (r9_2, _) (by k_mem)
              have a3 := mem_eq hs (r9_3, _) (by k_mem)
              have a4 := mem_eq hs (r9_4, _) (by k_mem)
              have a5 := mem_eq hs (c9, _) (by k_mem)
              have hit' : NoR it := NoR.of_cls (cls_ne hit (by decide))
              clear F5 N5 lI hs hit
              have hmap := map_two hrows htold
              rw [hmap] at F1
              clear htold hrows l1_6 gk'_11 h'_2 l'_2 hp9 hl9 hi9 nb9 na9 rb9 ra9 tk9 h9 ns9 vs9 tn9 n9 t9 r9 hp9_5 hl9_5 hi9_5 nb9_5 na9_5 rb9_1 ra9_1 ns9_6 vs9_6 n9_7 t9_4 r9_5 tk hb9 g7 g6 g5 hq9 ht9 qs9 ps9 gs9 z9 w9 dy9 y9 tk_3 h'_14 l1_5 gk'_10 D'_12 kX_2 Tc'_2 N9 F9 gg9 g9 h9_1 v9 u9 t9_3 dx9 x9 l1_4 gk'_9 l'_1 T'_2 X'_3 B'_2 L'_2 g'_2 l1_3 gk'_8 D'_11 kX_1 Tc'_1 N9_1 F9_1 gg9_6 g9_11 h9_3 v9_5 u9_5 t9_2 dx9_6 x9_6 l1_2 gk'_7 l' T'_1 X'_2 B'_1 L'_1 g'_1 l1_1 gk'_6 D'_10 og'_1 D'_9 gg9_5 g9_10 v9_4 u9_4 dx9_5 x9_5 l9 gk'_5 c9_9 D9 D'_8 oC'_7 C'_7 oI'_7 I'_7 gg9_4 g9_9 v9_3 u9_3 dx9_4 x9_4 l9_4 gk'_4 c9_8 D9_3 D'_7 oC'_6 C'_6 oI'_6 I'_6 gg9_3 g9_8 v9_2 u9_2 dx9_3 x9_3 l9_3 gk'_3 c9_7 D9_2 D'_6 oC'_5 C'_5 oI'_5 I'_5 gg9_2 g9_7 v9_1 u9_1 dx9_2 x9_2 l9_2 gk' c9_6 D9_1 D'_5 oC'_4 C'_4 oI'_4 I'_4 og' g9_6 hp9_4 hl9_4 hi9_4 nb9_4 na9_4 ns9_5 vs9_5 tn9_4 n9_6 D'_3 oC'_3 C'_3 oI'_3 I'_3 g9_5 hp9_3 hl9_3 hi9_3 nb9_3 na9_3 ns9_4 vs9_4 tn9_3 n9_5 D'_2 oC'_2 C'_2 oI'_2 I'_2 g9_4 hp9_2 hl9_2 hi9_2 nb9_2 na9_2 ns9_3 vs9_3 tn9_2 n9_4 D'_1 oC'_1 C'_1 oI'_1 I'_1 g9_3 hp9_1 hl9_1 hi9_1 nb9_1 na9_1 ns9_2 vs9_2 tn9_1 n9_3 D' oC' C' oI' I' a_3 h' d'_2 o'_1 h'_5 kX Tc' tk_1 N' F' h'_4 ll9 l9_1 gk'_2 n9_2 i9 tk9_2 h9_2 g9_2 f9 e9 d9 c9_1 b9 a9 kz9 zs9 z9_2 dx9_1 x9_1 tk_2 T' X'_1 B' h'_3 L' g' l2 l1 gk'_1 d'_1 x' d' o' gg9_1 g9_1 n9_1 z9_1 q9 p9 i9_1 k29 k19 t9_1 ns9_1 vs9_1 ce9 st9 qk_1 hg2 hg1 right left hH0 hb0 w_3 w_2 hcond'_1 hcond' hI w_7 w_6 hl2 hr hL hlay0 hs w_1 doc pm
              (try dsimp only at a0)
              exact by
                w_top off
                (try dsimp only at F1)
                with_reducible show wpAny _ _ _ _ _ _
                k_fold
                repeat' (first | (k_unfold; (try dsimp only)) | ((with_reducible refine qb1 ?_); (try dsimp only)) | ((with_reducible refine qb2 ?_); (try dsimp only)) | ((with_reducible refine qa1 ?_); (try dsimp only)) | ((with_reducible refine qa2 ?_); (try dsimp only [List.cons_append, List.nil_append])) | ((with_reducible refine qs1 ?_); (try dsimp only)) | ((with_reducible refine qs2 ?_); (try dsimp only)) | (with_reducible refine qs3 ?_) | (with_reducible refine qs4 ?_) | ((with_reducible refine qc1 ?_); (try dsimp only)) | ((with_reducible refine qu1 ?_); (try dsimp only)) | (with_reducible refine qu2 ?_) | ((with_reducible refine qg1 ?_); (try dsimp only)) | (with_reducible refine qg2 ?_) | ((with_reducible refine qt1 ?_); (try dsimp only)) | ((with_reducible refine qr1 ?_); (try dsimp only)) | (with_reducible refine qb0 ?_) | (with_reducible refine qu0 ?_) | ((with_reducible show wpAny _ _ (spliced (backTo _ (starEach (_ :: _) _))) _ _ _); k_dflt (refine qa0 ?_)) | ((with_reducible show wpAny _ _ (execs (_ :: _) _) _ _ _); first | (k_here; k_gentoks) | (with_reducible refine qs0 ?_)) | ((with_reducible show wpAny _ _ (eval (PySem.Expr.Call (PySem.Expr.Name _ _) _ [] _) _) _ _ _); (fail_if_success (with_reducible show wpAny _ _ (eval _ (compEnvC _ _ _ _)) _ _ _)); k_dflt (refine qc0 ?_)) | ((with_reducible show wpAny _ _ (exec (Stmt.Assign [PySem.Expr.Name _ _] _ _) _) _ _ _); (fail_if_success (with_reducible show wpAny _ _ (exec (Stmt.Assign _ (PySem.Expr.ListComp _ _ _ _) _) _) _ _ _)); k_dflt (refine qg0 ?_)) | ((with_reducible show wpAny _ _ (eval (PySem.Expr.Attribute (PySem.Expr.Name _ _) _ _) _) _ _ _); k_dflt (refine qt0 ?_)) | (with_reducible refine qr0 ?_) | ((with_reducible show wpAny _ _ (call (Value.ref _) _ _) _ _ _); first | (with_reducible (k_here; (with_reducible show wpAny _ _ (call (Value.ref 330) _) _ _ _); k_dflt (refine' dot_use ?zzk1 ?zzk2 ?zzk3 ?zzk4 ?zzk5 ?zzk6 ?zzu1 ?zzu2 ?zzt1 ?zzt2 ?zzm0 ?zzm1 ?zzm2 ?zzm3 ?zzm4 ?zzm5 ?zzm6 ?zzm7 ?zzm8 ?zzm9 ?zzm10 ?zzm11 ?zzm12 ?zzm13 ?zzm14 ?zzm15 ?zzm16 ?zzm17 ?zzm18 ?zzm19 ?zzm20 ?zzm21 ?zzm22 ?zzm23 ?zzm24 ?zzhZ ?zzhF0 ?zzhF1 ?zzhG0 ?zzhG1 ?zzlF0 ?zzlF1 ?zzlG0 ?zzlG1 ?zzsF0 ?zzsF1 ?zzsG0 ?zzsG1 ?zzd1 ?zzd2 ?_; (case zzk1 => k_asm); (case zzk2 => k_asm); (case zzk3 => k_asm); (case zzk4 => k_asm); (case zzk5 => k_asm); (case zzk6 => first | exact rfl | assumption); (case zzu1 => k_updF); (case zzu2 => (intro o9; (try dsimp only); k_updF)); (case zzt1 => first | assumption | exact True.intro); (case zzt2 => first | assumption | exact True.intro); (case zzm0 => walk_at "mm"); (case zzm1 => walk_at "mm"); (case zzm2 => walk_at "mm"); (case zzm3 => walk_at "mm"); (case zzm4 => walk_at "mm"); (case zzm5 => walk_at "mm"); (case zzm6 => walk_at "mm"); (case zzm7 => walk_at "mm"); (case zzm8 => walk_at "mm"); (case zzm9 => walk_at "mm"); (case zzm10 => walk_at "mm"); (case zzm11 => walk_at "mm"); (case zzm12 => walk_at "mm"); (case zzm13 => walk_at "mm"); (case zzm14 => walk_at "mm"); (case zzm15 => walk_at "mm"); (case zzm16 => walk_at "mm"); (case zzm17 => walk_at "mm"); (case zzm18 => walk_at "mm"); (case zzm19 => walk_at "mm"); (case zzm20 => walk_at "mm"); (case zzm21 => walk_at "mm"); (case zzm22 => walk_at "mm"); (case zzm23 => walk_at "mm"); (case zzm24 => walk_at "mm"); (case zzhZ => assumption); (case zzhF0 => assumption); (case zzhF1 => assumption); (case zzhG0 => assumption); (case zzhG1 => assumption); (case zzlF0 => first | assumption | exact (show Row256 _ from by assumption).1); (case zzlF1 => first | assumption | exact (show Row256 _ from by assumption).1); (case zzlG0 => first | assumption | exact (show Row256 _ from by assumption).1); (case zzlG1 => first | assumption | exact (show Row256 _ from by assumption).1); (case zzsF0 => first | assumption | exact small_of (show Row256 _ from by assumption).2); (case zzsF1 => first | assumption | exact small_of (show Row256 _ from by assumption).2); (case zzsG0 => first | assumption | exact small_of (show Row256 _ from by assumption).2); (case zzsG1 => first | assumption | exact small_of (show Row256 _ from by assumption).2); (case zzd1 => ktr_room); (case zzd2 => first | assumption | decide); k_whole); (intro y9 dy9 c9 w9 z9 its9 kk9 h9 tk9 gs9 ps9 qs9 ht9 hq9 hI9 F9 N9 g5 g6 g7 hb9); (try dsimp only at N9); (try dsimp only at g5); (try dsimp only at g6); (try dsimp only at g7))) | (with_reducible (k_here; (with_reducible show wpAny _ _ (call (Value.ref 323) _) _ _ _); k_dflt (refine' matmul_use ?zzk1 ?zzk2 ?zzk3 ?zzk4 ?zzk5 ?zzk6 ?zzu1 ?zzu2 ?zzt1 ?zzt2 ?zzm0 ?zzm1 ?zzm2 ?zzm3 ?zzm4 ?zzm5 ?zzm6 ?zzm7 ?zzm8 ?zzm9 ?zzm10 ?zzm11 ?zzm12 ?zzm13 ?zzm14 ?zzm15 ?zzm16 ?zzm17 ?zzm18 ?zzm19 ?zzm20 ?zzm21 ?zzm22 ?zzm23 ?zzm24 ?zzhZ ?zzhF0 ?zzhF1 ?zzhG0 ?zzhG1 ?zzlF0 ?zzlF1 ?zzlG0 ?zzlG1 ?zzsF0 ?zzsF1 ?zzsG0 ?zzsG1 ?zzd1 ?zzd2 ?_; (case zzk1 => k_asm); (case zzk2 => k_asm); (case zzk3 => k_asm); (case zzk4 => k_asm); (case zzk5 => k_asm); (case zzk6 => first | exact rfl | assumption); (case zzu1 => k_updF); (case zzu2 => (intro o9; (try dsimp only); k_updF)); (case zzt1 => first | assumption | exact True.intro); (case zzt2 => first | assumption | exact True.intro); (case zzm0 => walk_at "mm"); (case zzm1 => walk_at "mm"); (case zzm2 => walk_at "mm"); (case zzm3 => walk_at "mm"); (case zzm4 => walk_at "mm"); (case zzm5 => walk_at "mm"); (case zzm6 => walk_at "mm"); (case zzm7 => walk_at "mm"); (case zzm8 => walk_at "mm"); (case zzm9 => walk_at "mm"); (case zzm10 => walk_at "mm"); (case zzm11 => walk_at "mm"); (case zzm12 => walk_at "mm"); (case zzm13 => walk_at "mm"); (case zzm14 => walk_at "mm"); (case zzm15 => walk_at "mm"); (case zzm16 => walk_at "mm"); (case zzm17 => walk_at "mm"); (case zzm18 => walk_at "mm"); (case zzm19 => walk_at "mm"); (case zzm20 => walk_at "mm"); (case zzm21 => walk_at "mm"); (case zzm22 => walk_at "mm"); (case zzm23 => walk_at "mm"); (case zzm24 => walk_at "mm"); (case zzhZ => assumption); (case zzhF0 => assumption); (case zzhF1 => assumption); (case zzhG0 => assumption); (case zzhG1 => assumption); (case zzlF0 => first | assumption | exact (show Row256 _ from by assumption).1); (case zzlF1 => first | assumption | exact (show Row256 _ from by assumption).1); (case zzlG0 => first | assumption | exact (show Row256 _ from by assumption).1); (case zzlG1 => first | assumption | exact (show Row256 _ from by assumption).1); (case zzsF0 => first | assumption | exact small_of (show Row256 _ from by assumption).2); (case zzsF1 => first | assumption | exact small_of (show Row256 _ from by assumption).2); (case zzsG0 => first | assumption | exact small_of (show Row256 _ from by assumption).2); (case zzsG1 => first | assumption | exact small_of (show Row256 _ from by assumption).2); (case zzd1 => ktr_room); (case zzd2 => first | assumption | decide); k_whole); (intro x9 dx9 D9 a9 y9 dy9 c9 t9 u9 v9 kd9 ka9 w9 z9 its9 kk9 h9 tk9 gs9 ps9 qs9 ht9 hq9 hI9 F9 N9 g1 g2 g3 g4 g5 g6 g7 hb9); (try dsimp only at N9); (try dsimp only at g1); (try dsimp only at g2); (try dsimp only at g3); (try dsimp only at g4); (try dsimp only at g5); (try dsimp only at g6); (try dsimp only at g7))) | (with_reducible (k_here; (with_reducible show wpAny _ _ (call (Value.ref _) [Value.ref _, Value.bool _]) _ _ _); k_dflt (refine' mod_two ?zzk1 ?zzk2 ?zzk3 ?zzk4 ?zzk5 ?zzk6 ?zzu1 ?zzt1 ?zzm1 ?zzm2 ?zzm3 ?zzm4 ?zzm5 ?zzm6 ?zzd1 ?_; (case zzk1 => k_asm); (case zzk2 => k_asm); (case zzk3 => k_asm); (case zzk4 => k_asm); (case zzk5 => k_asm); (case zzk6 => first | exact rfl | assumption); (case zzu1 => k_updF); (case zzt1 => first | assumption | exact True.intro); (case zzm1 => walk_at "mm"); (case zzm2 => walk_at "mm"); (case zzm3 => walk_at "mm"); (case zzm4 => walk_at "mm"); (case zzm5 => walk_at "mm"); (case zzm6 => walk_at "mm"); (case zzd1 => ktr_room); k_whole); (intro x9 dx9 t9 u9 v9 h9 tk9 gs9 ps9 ht9 g9 gg9 F9 N9 k9 hb9; clear k9); (try dsimp only at g9); (try dsimp only at gg9); (try dsimp only at N9))) | (with_reducible (k_here; (with_reducible show wpAny _ _ (call (Value.ref 662) _ _) _ _ _); (k_dflt (show wpAny _ _ (call (Value.ref 662) [Value.ref _, Value.ref _] [(Str.ofString "transpose", Value.bool _)]) _ _ _)); k_dflt (refine' mat_use ?zzk1 ?zzk2 ?zzk3 ?zzk4 ?zzk5 ?zzk6 ?zzm1 ?zzm2 ?zzm3 ?zzm4 ?zzz1 ?zzd1 ?_; (case zzk1 => k_asm); (case zzk2 => k_asm); (case zzk3 => k_asm); (case zzk4 => k_asm); (case zzk5 => k_asm); (case zzk6 => first | exact rfl | assumption); (case zzm1 => walk_at "mm"); (case zzm2 => walk_at "mm"); (case zzm3 => walk_at "mm"); (case zzm4 => walk_at "mm"); (case zzz1 => first | assumption | exact (show (2 : Nat) < 8 from by decide) | exact (show (1 : Nat) < 8 from by decide)); (case zzd1 => ktr_room); k_whole); (intro x9 dx9 t9 u9 v9 h9 tk9 g9 gg9 F9 N9 k9; clear k9); (try k_sweep))) | (with_reducible (k_here; (first | (with_reducible show wpAny _ _ (call (Value.ref _) [Value.ref _] (List.zip _ _)) _ _ _) | (with_reducible show wpAny _ _ (call (Value.ref _) [Value.ref _] [(_, Value.bool true)]) _ _ _) | (with_reducible show wpAny _ _ (call (Value.ref _) ([] ++ [Value.ref _]) (List.zip _ _)) _ _ _)); (k_dflt (show wpAny _ _ (call (Value.ref _) [Value.ref _] [(Str.ofString "is_ntt", Value.bool true)]) _ _ _)); k_dflt (refine' mk_use ?zzk1 ?zzk2 ?zzk3 ?zzk4 ?zzk5 ?zzk6 ?zzm1 ?zzm2 ?zzm3 ?zzi1 ?zzn1 ?zzd1 ?_; (case zzk1 => k_asm); (case zzk2 => k_asm); (case zzk3 => k_asm); (case zzk4 => k_asm); (case zzk5 => k_asm); (case zzk6 => first | exact rfl | assumption); (case zzm1 => walk_at "mm"); (case zzm2 => walk_at "mm"); (case zzm3 => walk_at "mm"); (case zzi1 => assumption); (case zzn1 => first | assumption | exact mulP_len _ _ _ | exact (show Row256 _ from by assumption).1); (case zzd1 => ktr_room); k_whole); (intro x9 dx9 u9 v9 h9 tk9 g9 gg9 F9 N9 k9; clear k9); (try k_sweep))) | (with_reducible (k_here; (with_reducible show wpAny _ _ (call (Value.ref 694) _) _ _ _); k_dflt (refine' root_con ?zzk1 ?zzk2 ?zzk3 ?zzk5 ?zzk6 _ _ ?zzi1 ?zzi2 ?zzd1 ?_; (case zzk1 => k_asm); (case zzk2 => k_asm); (case zzk3 => k_asm); (case zzk5 => k_asm); (case zzk6 => first | exact rfl | assumption); (case zzi1 => omega); (case zzi2 => omega); (case zzd1 => ktr_room); k_whole); (intro t9 h9 tk9 k9; have F9 := Fr.stays (by assumption) k9; have N9 := News.stays (by assumption) k9; clear k9))) | (with_reducible (k_here; (with_reducible show wpAny _ _ (call (Value.ref 687) _) _ _ _); k_dflt (refine' take_use ?zzk1 ?zzk2 ?zzk3 ?zzk4 ?zzk5 ?zzk6 ?zzu1 ?zzu2 ?zzi1 ?zzi2 ?zzi3 ?zzi4 ?zzi5 ?zzi6 ?zzi7 ?zzi8 ?zzi9 ?zzd1 ?_; (case zzk1 => k_asm); (case zzk2 => k_asm); (case zzk3 => k_asm); (case zzk4 => k_asm); (case zzk5 => k_asm); (case zzk6 => first | exact rfl | assumption); (case zzu1 => k_updF); (case zzu2 => (intro o9; (try dsimp only); k_updF)); (case zzi1 => assumption); (case zzi2 => assumption); (case zzi3 => omega); (case zzi4 => omega); (case zzi5 => omega); (case zzi6 => omega); (case zzi7 => omega); (case zzi8 => omega); (case zzi9 => k_ne); (case zzd1 => ktr_room); k_whole); (intro r9 t9 n9 tn9 vs9 ns9 h9 tk9 ra9 rb9 na9 nb9 hi9 hl9 hp9 F9 N9); (try dsimp only at N9); (try k_sweep))) | (with_reducible (k_here; (with_reducible show wpAny _ _ (call (Value.ref 699) _) _ _ _); k_dflt (refine' full_use ?zzk1 ?zzk2 ?zzk3 ?zzk4 ?zzk5 ?zzk6 ?zzu1 ?zzu2 ?zzi1 ?zzi2 ?zzi3 ?zzi4 ?zzi5 ?zzi6 ?zzi9 ?zzd1 ?_; (case zzk1 => k_asm); (case zzk2 => k_asm); (case zzk3 => k_asm); (case zzk4 => k_asm); (case zzk5 => k_asm); (case zzk6 => first | exact rfl | assumption); (case zzu1 => k_updF); (case zzu2 => (intro o9; (try dsimp only); k_updF)); (case zzi1 => assumption); (case zzi2 => assumption); (case zzi3 => omega); (case zzi4 => omega); (case zzi5 => omega); (case zzi6 => omega); (case zzi9 => k_ne); (case zzd1 => ktr_room); k_whole); (intro r9 ys9 c9 kk9 n9 tn9 vs9 ns9 h9 tk9 ya9 ro9 na9 nb9 hi9 hl9 hp9 F9 N9 g9); (try dsimp only at N9); (try dsimp only at g9))) | (with_reducible (k_here; (with_reducible show wpAny _ _ (call (Value.ref 437) _) _ _ _); k_dflt (refine' ring_use ?zzk1 ?zzk2 ?zzk3 ?zzk4 ?zzk5 ?zzk6 ?zzd1 ?_; (case zzk1 => k_asm); (case zzk2 => k_asm); (case zzk3 => k_asm); (case zzk4 => k_asm); (case zzk5 => k_asm); (case zzk6 => first | exact rfl | assumption); (case zzd1 => ktr_room); k_whole); (intro x9 dx9 z9 zs9 kz9 a9 b9 c9 d9 e9 f9 g9 h9 tk9 i9 l9 ll9 n9 F9 N9; (try dsimp only at l9); (try k_lt l9); (try k_lt2 ll9)))) | (with_reducible (k_here; (with_reducible show wpAny _ _ (call (Value.ref 680) _) _ _ _); k_dflt (refine' state_use ?zzk1 ?zzk2 ?zzk3 ?zzk4 ?zzk5 ?zzk6 ?zzl1 ?zzl2 ?zzl3 ?zzd1 ?_; (case zzk1 => k_asm); (case zzk2 => k_asm); (case zzk3 => k_asm); (case zzk4 => k_asm); (case zzk5 => k_asm); (case zzk6 => first | exact rfl | assumption); (case zzl1 => assumption); (case zzl2 => assumption); (case zzl3 => assumption); (case zzd1 => ktr_room); k_whole); (intro st9 ce9 vs9 ns9 t9 k19 k29 h9 tk9 i9 p9 q9 z9 n9 g9 gg9 F9 N9)))) | ((with_reducible show wpAny _ _ (compareOp _ (Value.ref _) (Value.ref _)) _ _ _); (with_reducible (k_here; (with_reducible show wpAny _ _ (compareOp CmpOp.Eq (Value.ref _) (Value.ref _)) _ _ _); k_dflt (refine' eq_same ?zzN ?zzm1 ?zzm2 ?zzhi ?zzhj ?zzhu ?_; (case zzN => k_asm); (case zzm1 => k_mem); (case zzm2 => k_mem); (case zzhi => assumption); (case zzhj => assumption); (case zzhu => units_room); k_whole)))) | ((with_reducible show wpAny _ _ (compareOp _ (Value.ref _) (Value.ref _)) _ _ _); (with_reducible (k_here; (with_reducible show wpAny _ _ (compareOp CmpOp.NotEq (Value.ref _) (Value.ref _)) _ _ _); k_dflt (refine' ne_pair ?zzN ?zzm1 ?zzm2 ?zzex ?zzey ?zzhu ?_; (case zzN => k_asm); (case zzm1 => k_mem); (case zzm2 => k_mem); (case zzex => exact told_first _ _ _ _ (by assumption) (by assumption)); (case zzey => exact told_second _ _ _ _ (by assumption) (by assumption)); (case zzhu => units_room); k_whole)))) | ((with_reducible show wpAny _ _ (subscriptTail _ _ _ _) _ _ _); (with_reducible (k_here; (with_reducible show wpAny _ _ (subscriptTail _ _ (Value.ref _) (Value.int _ _)) _ _ _); k_dflt (refine' item_lit ?zzk1 ?zzk2 ?zzk3 ?zzk4 ?zzk5 ?_ ?zzk6; (case zzk1 => k_asm); (case zzk2 => first | k_mem | (repeat (first | with_reducible assumption | with_reducible refine List.mem_cons_of_mem _ ?_))); (case zzk3 => decide); (case zzk4 => exact rfl); (case zzk5 => first | exact (show (4 : Nat) < 8 from by decide) | exact (show (2 : Nat) < 8 from by decide)); (case zzk6 => with_unfolding_all rfl); k_whole)))) | ((with_reducible show wpAny _ _ (subscriptTail _ _ _ _) _ _ _); (with_reducible (k_here; (with_reducible show wpAny _ _ (subscriptTail (PySem.Expr.Subscript _ _ _) (PySem.Expr.Slice _ _ none _) (Value.ref _) (Value.ref _)) _ _ _); k_dflt (refine kba_turn (value' := PySem.Expr.Name (PySem.Str.ofString "_") ⟨0, 0, 0, 0⟩) (fun _ => rfl) ?_)))) | ((with_reducible show wpAny _ _ (subscriptTail _ _ _ _) _ _ _); (with_reducible (k_here; (with_reducible show wpAny _ _ (subscriptTail _ (PySem.Expr.Slice _ _ none _) (Value.ref _) (Value.ref _)) _ _ _); k_dflt (refine' slice_pair ?zzF ?zzN ?zzm ?zzi ?zzl ?zzh0 ?zzh1 ?zzh2 ?_ ?zzs ?zzt; (case zzF => k_asm); (case zzN => k_asm); (case zzm => first | k_mem | (repeat (first | with_reducible assumption | with_reducible refine List.mem_cons_of_mem _ ?_))); (case zzi => assumption); (case zzl => first | assumption | exact (show Row256 _ from by assumption).1 | exact addP_len _ _); (case zzh0 => omega); (case zzh1 => omega); (case zzh2 => omega); (case zzs => with_unfolding_all rfl); (case zzt => kmk_pure)); intro D9 u9 v9 h9 F9 N9 l9; (try dsimp only at l9); (try k_lt l9)))) | ((with_reducible show wpAny _ _ (getMethod (Value.ref _) _ _) _ _ _); (with_reducible (k_here; (first | (with_reducible show wpAny _ _ (getMethod (Value.ref _) (PySem.Str.ofString "ring") _) _ _ _) | (with_reducible show wpAny _ _ (getMethod (Value.ref _) (PySem.Str.ofString "parent") _) _ _ _)); k_dflt (refine' kmu_own ?zzk1 ?zzk2 ?zzk3 ?zzk4 ?zzk5 ?_; (case zzk1 => k_asm); (case zzk2 => k_asm); (case zzk3 => k_inst); (case zzk4 => k_is); (case zzk5 => k_is); k_whole)))) | ((with_reducible show wpAny _ _ (getAttr (Value.ref _) _ _) _ _ _); (with_reducible (k_here; k_dflt (refine' get_own ?zzk1 ?zzk2 ?zzk3 ?zzk4 ?zzk5 ?zzk6 ?zzk7 ?zzk8 ?zzk9 ?_; (case zzk1 => k_asm); (case zzk2 => k_asm); (case zzk3 => k_inst); (case zzk4 => k_is); (case zzk5 => k_is); (case zzk6 => k_is); (case zzk7 => k_is); (case zzk8 => k_get); (case zzk9 => k_handed); k_whole)))) | ((with_reducible show wpAny _ _ (call (Value.type "list") _ _) _ _ _); (with_reducible (k_here; (with_reducible show wpAny _ _ (call (Value.type "list") [Value.ref _]) _ _ _); k_dflt (refine' listcopy_use ?zzk1 ?zzk2 ?zzm1 ?zzi1 ?zzr1 ?_; (case zzk1 => k_asm); (case zzk2 => k_asm); (case zzm1 => k_mem); (case zzi1 => assumption); (case zzr1 => assumption); k_whole); (intro D9 c9 h9 F9 N9 l9; (try dsimp only at l9); (try k_lt l9))))) | ((with_reducible show wpAny _ _ (exec (Stmt.Assign _ _ _) _) _ _ _); (with_reducible (k_here; k_dflt (refine LCg.Assign_ListComp_U (F₀ := by k_asm) (by rfl) (by with_unfolding_all rfl) (by rfl) (by decide) (by rfl) (by decide) (by rfl) (by rfl) (by rfl) ?_)))) | ((with_reducible show wpAny _ _ (binaryOp _ (Value.ref _) (Value.ref _)) _ _ _); (with_reducible (k_here; (with_reducible show wpAny _ _ (binaryOp _ (Value.ref _) (Value.ref _)) _ _ _); k_dflt (refine' binop_K ?zzk1 ?zzk2 ?zzk3 ?zzk4 ?zzk5 ?zzk6 ?zzk7 ?_; (case zzk1 => k_asm); (case zzk2 => k_asm); (case zzk3 => k_inst); (case zzk4 => k_typeOf); (case zzk5 => k_is); (case zzk6 => k_is); (case zzk7 => k_is); k_whole)))) | ((with_reducible show wpAny _ _ (callWith _ (Value.ref _) _ _ _) _ _ _); (with_reducible (k_here; k_dflt (refine' callWith_ownKW ?zzk1 ?zzk2 ?zzk3 ?zzk4 ?zzk5 ?_; (case zzk1 => k_in); (case zzk2 => k_inst); (case zzk3 => rfl); (case zzk4 => k_is); (case zzk5 => exact rfl); k_whole)))) | ((with_reducible show wpAny _ _ (setItem (Value.ref _) (Value.int _ _) _) _ _ _); (with_reducible (k_here; (with_reducible show wpAny _ _ (setItem (Value.ref _) (Value.int _ _) _) _ _ _); k_dflt (refine' set_here ?zzk1 ?zzk2 ?zzk3 ?zzk4 ?zzk5 ?zzk6 ?zzk7 ?_; (case zzk1 => k_asm); (case zzk2 => k_asm); (case zzk3 => k_upd); (case zzk4 => decide); (case zzk5 => simp; done); (case zzk6 => decide); (case zzk7 => exact rfl); k_whole); intro h' F' N'; (simp only [List.setIfInBounds_toArray, Int.toNat_zero, Int.reduceToNat, List.set_cons_zero, List.set_cons_succ] at N'); (try k_sweep)))) | ((with_reducible show wpAny _ _ (getMethod (Value.ref _) _ _) _ _ _); (with_reducible (k_here; k_dflt (first | (refine' method_inst ?zzk1 ?zzk2 ?zzk3 ?zzk4 ?zzk5 ?zzk6 ?zzk7 ?_; (case zzk1 => k_asm); (case zzk2 => k_asm); (case zzk3 => k_inst); (case zzk4 => k_is); (case zzk5 => k_is); (case zzk6 => k_is); (case zzk7 => k_get); k_whole) | (refine' kmu_own ?zzk1 ?zzk2 ?zzk3 ?zzk4 ?zzk5 ?_; (case zzk1 => k_asm); (case zzk2 => k_asm); (case zzk3 => k_inst); (case zzk4 => k_is); (case zzk5 => k_is); k_whole) | (refine' kmu_sm ?zzk1 ?zzk2 ?zzk4 ?zzk5 ?zzk6 ?zzk7 ?zzk8 ?zzk9 ?zzk10 ?zzk11 ?zzk12 ?zzk13 ?zzk14 ?_; (case zzk1 => k_asm); (case zzk2 => k_asm); (case zzk4 => k_inst); (case zzk5 => k_is); (case zzk6 => k_is); (case zzk7 => k_is); (case zzk8 => k_is); (case zzk9 => k_is); (case zzk10 => k_is); (case zzk11 => decide +kernel); (case zzk12 => k_get); (case zzk13 => k_is); (case zzk14 => k_handed); k_whole))))) | walk1 | dsimp only)
                k_dflt (refine' UnrEnd.intro ?zzF ?zzN news₁ ?zzs ?zzo (hJ _ ?zzr))
                case zzF => k_asm
                case zzN => k_asm
                case zzs =>
                  intro q hq
                  rcases List.mem_cons.mp hq with rfl | hq
                  · k_mem
                  · repeat (first | exact hq | refine List.mem_cons_of_mem _ ?_)
                case zzo => exact fun q hq => Nat.ne_of_lt (lI' q hq)
                case zzr =>
                  repeat (refine MapBut.put ?_ rfl)
                  exact fun y hy => (congrFun hmap y).symm
            case zzdone =>
              rintro m₁ news₁ hZ tkZ ⟨hm, hs⟩ F1 N1
              have hfirst : m₁ (Str.ofString "first") = some (.ref x9_6) := (hm _ rfl).trans rfl
              have hsecond : m₁ (Str.ofString "second") = some (.ref x9) := (hm _ rfl).trans rfl
              have htold : m₁ (Str.ofString "told") = some (.ref c9) := (hm _ rfl).trans rfl
              rw [map_three hfirst hsecond htold] at F1
              rw [hs] at N1
              clear hm hs F5 N5 hfirst hsecond htold
              have g362 := gn_tab (a := 362) 40 N1 (by k_mem) (by
                simp only [List.take_succ_cons, List.take_zero]
                repeat (first | exact List.forall_mem_nil _ | refine List.forall_mem_cons.mpr ⟨by first | exact NoT.of_cell (by assumption) | exact NoT.of_cls (by intro e; cases e), ?_⟩))
              have g320 := gn_tab (a := 320) 40 N1 (by k_mem) (by
                simp only [List.take_succ_cons, List.take_zero]
                repeat (first | exact List.forall_mem_nil _ | refine List.forall_mem_cons.mpr ⟨by first | exact NoT.of_cell (by assumption) | exact NoT.of_cls (by intro e; cases e), ?_⟩))
              simp only [List.take_succ_cons, List.take_zero] at g362
              simp only [List.take_succ_cons, List.take_zero] at g320
              clear news₁ l1_6 gk'_11 hp9 hl9 hi9 nb9 na9 rb9 ra9 ns9 hp9_5 hl9_5 hi9_5 nb9_5 na9_5 rb9_1 ra9_1 ns9_6 vs9_6 n9_7 g7 g6 g5 l1_5 gk'_10 kX_2 Tc'_2 N9 F9 gg9 g9 h9_1 l1_4 gk'_9 T'_2 X'_3 B'_2 L'_2 g'_2 l1_3 gk'_8 kX_1 Tc'_1 N9_1 F9_1 gg9_6 g9_11 h9_3 l1_2 gk'_7 T'_1 X'_2 B'_1 L'_1 g'_1 l1_1 gk'_6 og'_1 gg9_5 g9_10 l9 gk'_5 D'_8 oC'_7 C'_7 oI'_7 I'_7 gg9_4 g9_9 l9_4 gk'_4 D'_7 oC'_6 C'_6 oI'_6 I'_6 gg9_3 g9_8 l9_3 gk'_3 D'_6 oC'_5 C'_5 oI'_5 I'_5 gg9_2 g9_7 l9_2 gk' D'_5 oC'_4 C'_4 oI'_4 I'_4 og' g9_6 hp9_4 hl9_4 hi9_4 nb9_4 na9_4 ns9_5 vs9_5 tn9_4 n9_6 D'_3 oC'_3 C'_3 oI'_3 I'_3 g9_5 hp9_3 hl9_3 hi9_3 nb9_3 na9_3 ns9_4 vs9_4 tn9_3 n9_5 D'_2 oC'_2 C'_2 oI'_2 I'_2 g9_4 hp9_2 hl9_2 hi9_2 nb9_2 na9_2 ns9_3 vs9_3 tn9_2 n9_4 D'_1 oC'_1 C'_1 oI'_1 I'_1 g9_3 hp9_1 hl9_1 hi9_1 nb9_1 na9_1 ns9_2 vs9_2 tn9_1 n9_3 D' oC' C' oI' I' a_3 h' d'_2 h'_5 kX Tc' tk_1 N' F' h'_4 ll9 l9_1 gk'_2 n9_2 h9_2 tk_2 T' X'_1 B' h'_3 L' g' l2 l1 gk'_1 d' gg9_1 g9_1 n9_1 z9_1 q9 p9 i9_1 t9_1 ns9_1 vs9_1 hg2 hg1 right left w_3 w_2 hcond'_1 hcond' hI w_7 w_6 hl2 hr hL hlay0 hs w_1 doc pm
              exact by
                w_top off
                (try dsimp only at F1)
                (try dsimp only)
                repeat' (first | (k_unfold; (try dsimp only)) | ((with_reducible refine qb1 ?_); (try dsimp only)) | ((with_reducible refine qb2 ?_); (try dsimp only)) | ((with_reducible refine qa1 ?_); (try dsimp only)) | ((with_reducible refine qa2 ?_); (try dsimp only [List.cons_append, List.nil_append])) | ((with_reducible refine qs1 ?_); (try dsimp only)) | ((with_reducible refine qs2 ?_); (try dsimp only)) | (with_reducible refine qs3 ?_) | (with_reducible refine qs4 ?_) | ((with_reducible refine qc1 ?_); (try dsimp only)) | ((with_reducible refine qu1 ?_); (try dsimp only)) | (with_reducible refine qu2 ?_) | ((with_reducible refine qg1 ?_); (try dsimp only)) | (with_reducible refine qg2 ?_) | ((with_reducible refine qt1 ?_); (try dsimp only)) | ((with_reducible refine qr1 ?_); (try dsimp only)) | (with_reducible refine qb0 ?_) | (with_reducible refine qu0 ?_) | ((with_reducible show wpAny _ _ (spliced (backTo _ (starEach (_ :: _) _))) _ _ _); k_dflt (refine qa0 ?_)) | ((with_reducible show wpAny _ _ (execs (_ :: _) _) _ _ _); first | (k_here; k_gentoks) | (with_reducible refine qs0 ?_)) | ((with_reducible show wpAny _ _ (eval (PySem.Expr.Call (PySem.Expr.Name _ _) _ [] _) _) _ _ _); (fail_if_success (with_reducible show wpAny _ _ (eval _ (compEnvC _ _ _ _)) _ _ _)); k_dflt (refine qc0 ?_)) | ((with_reducible show wpAny _ _ (exec (Stmt.Assign [PySem.Expr.Name _ _] _ _) _) _ _ _); (fail_if_success (with_reducible show wpAny _ _ (exec (Stmt.Assign _ (PySem.Expr.ListComp _ _ _ _) _) _) _ _ _)); k_dflt (refine qg0 ?_)) | ((with_reducible show wpAny _ _ (eval (PySem.Expr.Attribute (PySem.Expr.Name _ _) _ _) _) _ _ _); k_dflt (refine qt0 ?_)) | (with_reducible refine qr0 ?_) | ((with_reducible show wpAny _ _ (call (Value.ref _) _ _) _ _ _); first | (with_reducible (k_here; (with_reducible show wpAny _ _ (call (Value.ref 330) _) _ _ _); k_dflt (refine' dot_use ?zzk1 ?zzk2 ?zzk3 ?zzk4 ?zzk5 ?zzk6 ?zzu1 ?zzu2 ?zzt1 ?zzt2 ?zzm0 ?zzm1 ?zzm2 ?zzm3 ?zzm4 ?zzm5 ?zzm6 ?zzm7 ?zzm8 ?zzm9 ?zzm10 ?zzm11 ?zzm12 ?zzm13 ?zzm14 ?zzm15 ?zzm16 ?zzm17 ?zzm18 ?zzm19 ?zzm20 ?zzm21 ?zzm22 ?zzm23 ?zzm24 ?zzhZ ?zzhF0 ?zzhF1 ?zzhG0 ?zzhG1 ?zzlF0 ?zzlF1 ?zzlG0 ?zzlG1 ?zzsF0 ?zzsF1 ?zzsG0 ?zzsG1 ?zzd1 ?zzd2 ?_; (case zzk1 => k_asm); (case zzk2 => k_asm); (case zzk3 => k_asm); (case zzk4 => k_asm); (case zzk5 => k_asm); (case zzk6 => first | exact rfl | assumption); (case zzu1 => k_updF); (case zzu2 => (intro o9; (try dsimp only); k_updF)); (case zzt1 => first | assumption | exact True.intro); (case zzt2 => first | assumption | exact True.intro); (case zzm0 => walk_at "mm"); (case zzm1 => walk_at "mm"); (case zzm2 => walk_at "mm"); (case zzm3 => walk_at "mm"); (case zzm4 => walk_at "mm"); (case zzm5 => walk_at "mm"); (case zzm6 => walk_at "mm"); (case zzm7 => walk_at "mm"); (case zzm8 => walk_at "mm"); (case zzm9 => walk_at "mm"); (case zzm10 => walk_at "mm"); (case zzm11 => walk_at "mm"); (case zzm12 => walk_at "mm"); (case zzm13 => walk_at "mm"); (case zzm14 => walk_at "mm"); (case zzm15 => walk_at "mm"); (case zzm16 => walk_at "mm"); (case zzm17 => walk_at "mm"); (case zzm18 => walk_at "mm"); (case zzm19 => walk_at "mm"); (case zzm20 => walk_at "mm"); (case zzm21 => walk_at "mm"); (case zzm22 => walk_at "mm"); (case zzm23 => walk_at "mm"); (case zzm24 => walk_at "mm"); (case zzhZ => assumption); (case zzhF0 => assumption); (case zzhF1 => assumption); (case zzhG0 => assumption); (case zzhG1 => assumption); (case zzlF0 => first | assumption | exact (show Row256 _ from by assumption).1); (case zzlF1 => first | assumption | exact (show Row256 _ from by assumption).1); (case zzlG0 => first | assumption | exact (show Row256 _ from by assumption).1); (case zzlG1 => first | assumption | exact (show Row256 _ from by assumption).1); (case zzsF0 => first | assumption | exact small_of (show Row256 _ from by assumption).2); (case zzsF1 => first | assumption | exact small_of (show Row256 _ from by assumption).2); (case zzsG0 => first | assumption | exact small_of (show Row256 _ from by assumption).2); (case zzsG1 => first | assumption | exact small_of (show Row256 _ from by assumption).2); (case zzd1 => ktr_room); (case zzd2 => first | assumption | decide); k_whole); (intro y9 dy9 c9 w9 z9 its9 kk9 h9 tk9 gs9 ps9 qs9 ht9 hq9 hI9 F9 N9 g5 g6 g7 hb9); (try dsimp only at N9); (try dsimp only at g5); (try dsimp only at g6); (try dsimp only at g7))) | (with_reducible (k_here; (with_reducible show wpAny _ _ (call (Value.ref 323) _) _ _ _); k_dflt (refine' matmul_use ?zzk1 ?zzk2 ?zzk3 ?zzk4 ?zzk5 ?zzk6 ?zzu1 ?zzu2 ?zzt1 ?zzt2 ?zzm0 ?zzm1 ?zzm2 ?zzm3 ?zzm4 ?zzm5 ?zzm6 ?zzm7 ?zzm8 ?zzm9 ?zzm10 ?zzm11 ?zzm12 ?zzm13 ?zzm14 ?zzm15 ?zzm16 ?zzm17 ?zzm18 ?zzm19 ?zzm20 ?zzm21 ?zzm22 ?zzm23 ?zzm24 ?zzhZ ?zzhF0 ?zzhF1 ?zzhG0 ?zzhG1 ?zzlF0 ?zzlF1 ?zzlG0 ?zzlG1 ?zzsF0 ?zzsF1 ?zzsG0 ?zzsG1 ?zzd1 ?zzd2 ?_; (case zzk1 => k_asm); (case zzk2 => k_asm); (case zzk3 => k_asm); (case zzk4 => k_asm); (case zzk5 => k_asm); (case zzk6 => first | exact rfl | assumption); (case zzu1 => k_updF); (case zzu2 => (intro o9; (try dsimp only); k_updF)); (case zzt1 => first | assumption | exact True.intro); (case zzt2 => first | assumption | exact True.intro); (case zzm0 => walk_at "mm"); (case zzm1 => walk_at "mm"); (case zzm2 => walk_at "mm"); (case zzm3 => walk_at "mm"); (case zzm4 => walk_at "mm"); (case zzm5 => walk_at "mm"); (case zzm6 => walk_at "mm"); (case zzm7 => walk_at "mm"); (case zzm8 => walk_at "mm"); (case zzm9 => walk_at "mm"); (case zzm10 => walk_at "mm"); (case zzm11 => walk_at "mm"); (case zzm12 => walk_at "mm"); (case zzm13 => walk_at "mm"); (case zzm14 => walk_at "mm"); (case zzm15 => walk_at "mm"); (case zzm16 => walk_at "mm"); (case zzm17 => walk_at "mm"); (case zzm18 => walk_at "mm"); (case zzm19 => walk_at "mm"); (case zzm20 => walk_at "mm"); (case zzm21 => walk_at "mm"); (case zzm22 => walk_at "mm"); (case zzm23 => walk_at "mm"); (case zzm24 => walk_at "mm"); (case zzhZ => assumption); (case zzhF0 => assumption); (case zzhF1 => assumption); (case zzhG0 => assumption); (case zzhG1 => assumption); (case zzlF0 => first | assumption | exact (show Row256 _ from by assumption).1); (case zzlF1 => first | assumption | exact (show Row256 _ from by assumption).1); (case zzlG0 => first | assumption | exact (show Row256 _ from by assumption).1); (case zzlG1 => first | assumption | exact (show Row256 _ from by assumption).1); (case zzsF0 => first | assumption | exact small_of (show Row256 _ from by assumption).2); (case zzsF1 => first | assumption | exact small_of (show Row256 _ from by assumption).2); (case zzsG0 => first | assumption | exact small_of (show Row256 _ from by assumption).2); (case zzsG1 => first | assumption | exact small_of (show Row256 _ from by assumption).2); (case zzd1 => ktr_room); (case zzd2 => first | assumption | decide); k_whole); (intro x9 dx9 D9 a9 y9 dy9 c9 t9 u9 v9 kd9 ka9 w9 z9 its9 kk9 h9 tk9 gs9 ps9 qs9 ht9 hq9 hI9 F9 N9 g1 g2 g3 g4 g5 g6 g7 hb9); (try dsimp only at N9); (try dsimp only at g1); (try dsimp only at g2); (try dsimp only at g3); (try dsimp only at g4); (try dsimp only at g5); (try dsimp only at g6); (try dsimp only at g7))) | (with_reducible (k_here; (with_reducible show wpAny _ _ (call (Value.ref _) [Value.ref _, Value.bool _]) _ _ _); k_dflt (refine' mod_two ?zzk1 ?zzk2 ?zzk3 ?zzk4 ?zzk5 ?zzk6 ?zzu1 ?zzt1 ?zzm1 ?zzm2 ?zzm3 ?zzm4 ?zzm5 ?zzm6 ?zzd1 ?_; (case zzk1 => k_asm); (case zzk2 => k_asm); (case zzk3 => k_asm); (case zzk4 => k_asm); (case zzk5 => k_asm); (case zzk6 => first | exact rfl | assumption); (case zzu1 => k_updF); (case zzt1 => first | assumption | exact True.intro); (case zzm1 => walk_at "mm"); (case zzm2 => walk_at "mm"); (case zzm3 => walk_at "mm"); (case zzm4 => walk_at "mm"); (case zzm5 => walk_at "mm"); (case zzm6 => walk_at "mm"); (case zzd1 => ktr_room); k_whole); (intro x9 dx9 t9 u9 v9 h9 tk9 gs9 ps9 ht9 g9 gg9 F9 N9 k9 hb9; clear k9); (try dsimp only at g9); (try dsimp only at gg9); (try dsimp only at N9))) | (with_reducible (k_here; (with_reducible show wpAny _ _ (call (Value.ref 662) _ _) _ _ _); (k_dflt (show wpAny _ _ (call (Value.ref 662) [Value.ref _, Value.ref _] [(Str.ofString "transpose", Value.bool _)]) _ _ _)); k_dflt (refine' mat_use ?zzk1 ?zzk2 ?zzk3 ?zzk4 ?zzk5 ?zzk6 ?zzm1 ?zzm2 ?zzm3 ?zzm4 ?zzz1 ?zzd1 ?_; (case zzk1 => k_asm); (case zzk2 => k_asm); (case zzk3 => k_asm); (case zzk4 => k_asm); (case zzk5 => k_asm); (case zzk6 => first | exact rfl | assumption); (case zzm1 => walk_at "mm"); (case zzm2 => walk_at "mm"); (case zzm3 => walk_at "mm"); (case zzm4 => walk_at "mm"); (case zzz1 => first | assumption | exact (show (2 : Nat) < 8 from by decide) | exact (show (1 : Nat) < 8 from by decide)); (case zzd1 => ktr_room); k_whole); (intro x9 dx9 t9 u9 v9 h9 tk9 g9 gg9 F9 N9 k9; clear k9); (try k_sweep))) | (with_reducible (k_here; (first | (with_reducible show wpAny _ _ (call (Value.ref _) [Value.ref _] (List.zip _ _)) _ _ _) | (with_reducible show wpAny _ _ (call (Value.ref _) [Value.ref _] [(_, Value.bool true)]) _ _ _) | (with_reducible show wpAny _ _ (call (Value.ref _) ([] ++ [Value.ref _]) (List.zip _ _)) _ _ _)); (k_dflt (show wpAny _ _ (call (Value.ref _) [Value.ref _] [(Str.ofString "is_ntt", Value.bool true)]) _ _ _)); k_dflt (refine' mk_use ?zzk1 ?zzk2 ?zzk3 ?zzk4 ?zzk5 ?zzk6 ?zzm1 ?zzm2 ?zzm3 ?zzi1 ?zzn1 ?zzd1 ?_; (case zzk1 => k_asm); (case zzk2 => k_asm); (case zzk3 => k_asm); (case zzk4 => k_asm); (case zzk5 => k_asm); (case zzk6 => first | exact rfl | assumption); (case zzm1 => walk_at "mm"); (case zzm2 => walk_at "mm"); (case zzm3 => walk_at "mm"); (case zzi1 => assumption); (case zzn1 => first | assumption | exact mulP_len _ _ _ | exact (show Row256 _ from by assumption).1); (case zzd1 => ktr_room); k_whole); (intro x9 dx9 u9 v9 h9 tk9 g9 gg9 F9 N9 k9; clear k9); (try k_sweep))) | (with_reducible (k_here; (with_reducible show wpAny _ _ (call (Value.ref 694) _) _ _ _); k_dflt (refine' root_con ?zzk1 ?zzk2 ?zzk3 ?zzk5 ?zzk6 _ _ ?zzi1 ?zzi2 ?zzd1 ?_; (case zzk1 => k_asm); (case zzk2 => k_asm); (case zzk3 => k_asm); (case zzk5 => k_asm); (case zzk6 => first | exact rfl | assumption); (case zzi1 => omega); (case zzi2 => omega); (case zzd1 => ktr_room); k_whole); (intro t9 h9 tk9 k9; have F9 := Fr.stays (by assumption) k9; have N9 := News.stays (by assumption) k9; clear k9))) | (with_reducible (k_here; (with_reducible show wpAny _ _ (call (Value.ref 687) _) _ _ _); k_dflt (refine' take_use ?zzk1 ?zzk2 ?zzk3 ?zzk4 ?zzk5 ?zzk6 ?zzu1 ?zzu2 ?zzi1 ?zzi2 ?zzi3 ?zzi4 ?zzi5 ?zzi6 ?zzi7 ?zzi8 ?zzi9 ?zzd1 ?_; (case zzk1 => k_asm); (case zzk2 => k_asm); (case zzk3 => k_asm); (case zzk4 => k_asm); (case zzk5 => k_asm); (case zzk6 => first | exact rfl | assumption); (case zzu1 => k_updF); (case zzu2 => (intro o9; (try dsimp only); k_updF)); (case zzi1 => assumption); (case zzi2 => assumption); (case zzi3 => omega); (case zzi4 => omega); (case zzi5 => omega); (case zzi6 => omega); (case zzi7 => omega); (case zzi8 => omega); (case zzi9 => k_ne); (case zzd1 => ktr_room); k_whole); (intro r9 t9 n9 tn9 vs9 ns9 h9 tk9 ra9 rb9 na9 nb9 hi9 hl9 hp9 F9 N9); (try dsimp only at N9); (try k_sweep))) | (with_reducible (k_here; (with_reducible show wpAny _ _ (call (Value.ref 699) _) _ _ _); k_dflt (refine' full_use ?zzk1 ?zzk2 ?zzk3 ?zzk4 ?zzk5 ?zzk6 ?zzu1 ?zzu2 ?zzi1 ?zzi2 ?zzi3 ?zzi4 ?zzi5 ?zzi6 ?zzi9 ?zzd1 ?_; (case zzk1 => k_asm); (case zzk2 => k_asm); (case zzk3 => k_asm); (case zzk4 => k_asm); (case zzk5 => k_asm); (case zzk6 => first | exact rfl | assumption); (case zzu1 => k_updF); (case zzu2 => (intro o9; (try dsimp only); k_updF)); (case zzi1 => assumption); (case zzi2 => assumption); (case zzi3 => omega); (case zzi4 => omega); (case zzi5 => omega); (case zzi6 => omega); (case zzi9 => k_ne); (case zzd1 => ktr_room); k_whole); (intro r9 ys9 c9 kk9 n9 tn9 vs9 ns9 h9 tk9 ya9 ro9 na9 nb9 hi9 hl9 hp9 F9 N9 g9); (try dsimp only at N9); (try dsimp only at g9))) | (with_reducible (k_here; (with_reducible show wpAny _ _ (call (Value.ref 437) _) _ _ _); k_dflt (refine' ring_use ?zzk1 ?zzk2 ?zzk3 ?zzk4 ?zzk5 ?zzk6 ?zzd1 ?_; (case zzk1 => k_asm); (case zzk2 => k_asm); (case zzk3 => k_asm); (case zzk4 => k_asm); (case zzk5 => k_asm); (case zzk6 => first | exact rfl | assumption); (case zzd1 => ktr_room); k_whole); (intro x9 dx9 z9 zs9 kz9 a9 b9 c9 d9 e9 f9 g9 h9 tk9 i9 l9 ll9 n9 F9 N9; (try dsimp only at l9); (try k_lt l9); (try k_lt2 ll9)))) | (with_reducible (k_here; (with_reducible show wpAny _ _ (call (Value.ref 680) _) _ _ _); k_dflt (refine' state_use ?zzk1 ?zzk2 ?zzk3 ?zzk4 ?zzk5 ?zzk6 ?zzl1 ?zzl2 ?zzl3 ?zzd1 ?_; (case zzk1 => k_asm); (case zzk2 => k_asm); (case zzk3 => k_asm); (case zzk4 => k_asm); (case zzk5 => k_asm); (case zzk6 => first | exact rfl | assumption); (case zzl1 => assumption); (case zzl2 => assumption); (case zzl3 => assumption); (case zzd1 => ktr_room); k_whole); (intro st9 ce9 vs9 ns9 t9 k19 k29 h9 tk9 i9 p9 q9 z9 n9 g9 gg9 F9 N9)))) | ((with_reducible show wpAny _ _ (compareOp _ (Value.ref _) (Value.ref _)) _ _ _); (with_reducible (k_here; (with_reducible show wpAny _ _ (compareOp CmpOp.Eq (Value.ref _) (Value.ref _)) _ _ _); k_dflt (refine' eq_same ?zzN ?zzm1 ?zzm2 ?zzhi ?zzhj ?zzhu ?_; (case zzN => k_asm); (case zzm1 => k_mem); (case zzm2 => k_mem); (case zzhi => assumption); (case zzhj => assumption); (case zzhu => units_room); k_whole)))) | ((with_reducible show wpAny _ _ (compareOp _ (Value.ref _) (Value.ref _)) _ _ _); (with_reducible (k_here; (with_reducible show wpAny _ _ (compareOp CmpOp.NotEq (Value.ref _) (Value.ref _)) _ _ _); k_dflt (refine' ne_pair ?zzN ?zzm1 ?zzm2 ?zzex ?zzey ?zzhu ?_; (case zzN => k_asm); (case zzm1 => k_mem); (case zzm2 => k_mem); (case zzex => exact told_first _ _ _ _ (by assumption) (by assumption)); (case zzey => exact told_second _ _ _ _ (by assumption) (by assumption)); (case zzhu => units_room); k_whole)))) | ((with_reducible show wpAny _ _ (subscriptTail _ _ _ _) _ _ _); (with_reducible (k_here; (with_reducible show wpAny _ _ (subscriptTail _ _ (Value.ref _) (Value.int _ _)) _ _ _); k_dflt (refine' item_lit ?zzk1 ?zzk2 ?zzk3 ?zzk4 ?zzk5 ?_ ?zzk6; (case zzk1 => k_asm); (case zzk2 => first | k_mem | (repeat (first | with_reducible assumption | with_reducible refine List.mem_cons_of_mem _ ?_))); (case zzk3 => decide); (case zzk4 => exact rfl); (case zzk5 => first | exact (show (4 : Nat) < 8 from by decide) | exact (show (2 : Nat) < 8 from by decide)); (case zzk6 => with_unfolding_all rfl); k_whole)))) | ((with_reducible show wpAny _ _ (subscriptTail _ _ _ _) _ _ _); (with_reducible (k_here; (with_reducible show wpAny _ _ (subscriptTail (PySem.Expr.Subscript _ _ _) (PySem.Expr.Slice _ _ none _) (Value.ref _) (Value.ref _)) _ _ _); k_dflt (refine kba_turn (value' := PySem.Expr.Name (PySem.Str.ofString "_") ⟨0, 0, 0, 0⟩) (fun _ => rfl) ?_)))) | ((with_reducible show wpAny _ _ (subscriptTail _ _ _ _) _ _ _); (with_reducible (k_here; (with_reducible show wpAny _ _ (subscriptTail _ (PySem.Expr.Slice _ _ none _) (Value.ref _) (Value.ref _)) _ _ _); k_dflt (refine' slice_pair ?zzF ?zzN ?zzm ?zzi ?zzl ?zzh0 ?zzh1 ?zzh2 ?_ ?zzs ?zzt; (case zzF => k_asm); (case zzN => k_asm); (case zzm => first | k_mem | (repeat (first | with_reducible assumption | with_reducible refine List.mem_cons_of_mem _ ?_))); (case zzi => assumption); (case zzl => first | assumption | exact (show Row256 _ from by assumption).1 | exact addP_len _ _); (case zzh0 => omega); (case zzh1 => omega); (case zzh2 => omega); (case zzs => with_unfolding_all rfl); (case zzt => kmk_pure)); intro D9 u9 v9 h9 F9 N9 l9; (try dsimp only at l9); (try k_lt l9)))) | ((with_reducible show wpAny _ _ (getMethod (Value.ref _) _ _) _ _ _); (with_reducible (k_here; (first | (with_reducible show wpAny _ _ (getMethod (Value.ref _) (PySem.Str.ofString "ring") _) _ _ _) | (with_reducible show wpAny _ _ (getMethod (Value.ref _) (PySem.Str.ofString "parent") _) _ _ _)); k_dflt (refine' kmu_own ?zzk1 ?zzk2 ?zzk3 ?zzk4 ?zzk5 ?_; (case zzk1 => k_asm); (case zzk2 => k_asm); (case zzk3 => k_inst); (case zzk4 => k_is); (case zzk5 => k_is); k_whole)))) | ((with_reducible show wpAny _ _ (getAttr (Value.ref _) _ _) _ _ _); (with_reducible (k_here; k_dflt (refine' get_own ?zzk1 ?zzk2 ?zzk3 ?zzk4 ?zzk5 ?zzk6 ?zzk7 ?zzk8 ?zzk9 ?_; (case zzk1 => k_asm); (case zzk2 => k_asm); (case zzk3 => k_inst); (case zzk4 => k_is); (case zzk5 => k_is); (case zzk6 => k_is); (case zzk7 => k_is); (case zzk8 => k_get); (case zzk9 => k_handed); k_whole)))) | ((with_reducible show wpAny _ _ (call (Value.type "list") _ _) _ _ _); (with_reducible (k_here; (with_reducible show wpAny _ _ (call (Value.type "list") [Value.ref _]) _ _ _); k_dflt (refine' listcopy_use ?zzk1 ?zzk2 ?zzm1 ?zzi1 ?zzr1 ?_; (case zzk1 => k_asm); (case zzk2 => k_asm); (case zzm1 => k_mem); (case zzi1 => assumption); (case zzr1 => assumption); k_whole); (intro D9 c9 h9 F9 N9 l9; (try dsimp only at l9); (try k_lt l9))))) | ((with_reducible show wpAny _ _ (exec (Stmt.Assign _ _ _) _) _ _ _); (with_reducible (k_here; k_dflt (refine LCg.Assign_ListComp_U (F₀ := by k_asm) (by rfl) (by with_unfolding_all rfl) (by rfl) (by decide) (by rfl) (by decide) (by rfl) (by rfl) (by rfl) ?_)))) | ((with_reducible show wpAny _ _ (binaryOp _ (Value.ref _) (Value.ref _)) _ _ _); (with_reducible (k_here; (with_reducible show wpAny _ _ (binaryOp _ (Value.ref _) (Value.ref _)) _ _ _); k_dflt (refine' binop_K ?zzk1 ?zzk2 ?zzk3 ?zzk4 ?zzk5 ?zzk6 ?zzk7 ?_; (case zzk1 => k_asm); (case zzk2 => k_asm); (case zzk3 => k_inst); (case zzk4 => k_typeOf); (case zzk5 => k_is); (case zzk6 => k_is); (case zzk7 => k_is); k_whole)))) | ((with_reducible show wpAny _ _ (callWith _ (Value.ref _) _ _ _) _ _ _); (with_reducible (k_here; k_dflt (refine' callWith_ownKW ?zzk1 ?zzk2 ?zzk3 ?zzk4 ?zzk5 ?_; (case zzk1 => k_in); (case zzk2 => k_inst); (case zzk3 => rfl); (case zzk4 => k_is); (case zzk5 => exact rfl); k_whole)))) | ((with_reducible show wpAny _ _ (setItem (Value.ref _) (Value.int _ _) _) _ _ _); (with_reducible (k_here; (with_reducible show wpAny _ _ (setItem (Value.ref _) (Value.int _ _) _) _ _ _); k_dflt (refine' set_here ?zzk1 ?zzk2 ?zzk3 ?zzk4 ?zzk5 ?zzk6 ?zzk7 ?_; (case zzk1 => k_asm); (case zzk2 => k_asm); (case zzk3 => k_upd); (case zzk4 => decide); (case zzk5 => simp; done); (case zzk6 => decide); (case zzk7 => exact rfl); k_whole); intro h' F' N'; (simp only [List.setIfInBounds_toArray, Int.toNat_zero, Int.reduceToNat, List.set_cons_zero, List.set_cons_succ] at N'); (try k_sweep)))) | ((with_reducible show wpAny _ _ (getMethod (Value.ref _) _ _) _ _ _); (with_reducible (k_here; k_dflt (first | (refine' method_inst ?zzk1 ?zzk2 ?zzk3 ?zzk4 ?zzk5 ?zzk6 ?zzk7 ?_; (case zzk1 => k_asm); (case zzk2 => k_asm); (case zzk3 => k_inst); (case zzk4 => k_is); (case zzk5 => k_is); (case zzk6 => k_is); (case zzk7 => k_get); k_whole) | (refine' kmu_own ?zzk1 ?zzk2 ?zzk3 ?zzk4 ?zzk5 ?_; (case zzk1 => k_asm); (case zzk2 => k_asm); (case zzk3 => k_inst); (case zzk4 => k_is); (case zzk5 => k_is); k_whole) | (refine' kmu_sm ?zzk1 ?zzk2 ?zzk4 ?zzk5 ?zzk6 ?zzk7 ?zzk8 ?zzk9 ?zzk10 ?zzk11 ?zzk12 ?zzk13 ?zzk14 ?_; (case zzk1 => k_asm); (case zzk2 => k_asm); (case zzk4 => k_inst); (case zzk5 => k_is); (case zzk6 => k_is); (case zzk7 => k_is); (case zzk8 => k_is); (case zzk9 => k_is); (case zzk10 => k_is); (case zzk11 => decide +kernel); (case zzk12 => k_get); (case zzk13 => k_is); (case zzk14 => k_handed); k_whole))))) | walk1 | dsimp only)
                dsimp only [PySem.W.CmpBack]
                rename_i a9_1 D9_4 x9_7 dx9_7 u9_6 v9_6 y9_1 dy9_1 c9_10 w9_1 z9_1 its9_1 kk9_5 gs9_1 ps9_1 qs9_1 ht9_1 hq9_1 hI9_1 hb9_1 tk_1 t9_1 h9_1 tk9_1 g' L' h' FG' F' N' B' X'_1 T' x9_8 dx9_8 t9_5 u9_7 v9_7 h9_2 tk9_3 gs9_2 ps9_2 ht9_2 F9_1 N9_1 hb9_2 kF kN Tc' kX
                clear g7 g6 g5 g4 g3 g2 g1 kX Tc' kN kF N9_1 F9_1 gg9 g9 ht9_2 ps9_2 ek qk T' X'_1 B' N' F' FG' L' g' g320 g362 N1 F1 tkZ hZ h'_2 tk9_1 h9_1 hq9_1 ht9_1 qs9_1 ps9_1 ro9 ya9 ro9_3 ya9_3 ro9_2 ya9_2 ro9_1 ya9_1 i9
                exact by
                  repeat' (first | (k_unfold; (try dsimp only)) | ((with_reducible refine qb1 ?_); (try dsimp only)) | ((with_reducible refine qb2 ?_); (try dsimp only)) | ((with_reducible refine qa1 ?_); (try dsimp only)) | ((with_reducible refine qa2 ?_); (try dsimp only [List.cons_append, List.nil_append])) | ((with_reducible refine qs1 ?_); (try dsimp only)) | ((with_reducible refine qs2 ?_); (try dsimp only)) | (with_reducible refine qs3 ?_) | (with_reducible refine qs4 ?_) | ((with_reducible refine qc1 ?_); (try dsimp only)) | ((with_reducible refine qu1 ?_); (try dsimp only)) | (with_reducible refine qu2 ?_) | ((with_reducible refine qg1 ?_); (try dsimp only)) | (with_reducible refine qg2 ?_) | ((with_reducible refine qt1 ?_); (try dsimp only)) | ((with_reducible refine qr1 ?_); (try dsimp only)) | (with_reducible refine qb0 ?_) | (with_reducible refine qu0 ?_) | ((with_reducible show wpAny _ _ (spliced (backTo _ (starEach (_ :: _) _))) _ _ _); k_dflt (refine qa0 ?_)) | ((with_reducible show wpAny _ _ (execs (_ :: _) _) _ _ _); first | (k_here; k_gentoks) | (with_reducible refine qs0 ?_)) | ((with_reducible show wpAny _ _ (eval (PySem.Expr.Call (PySem.Expr.Name _ _) _ [] _) _) _ _ _); (fail_if_success (with_reducible show wpAny _ _ (eval _ (compEnvC _ _ _ _)) _ _ _)); k_dflt (refine qc0 ?_)) | ((with_reducible show wpAny _ _ (exec (Stmt.Assign [PySem.Expr.Name _ _] _ _) _) _ _ _); (fail_if_success (with_reducible show wpAny _ _ (exec (Stmt.Assign _ (PySem.Expr.ListComp _ _ _ _) _) _) _ _ _)); k_dflt (refine qg0 ?_)) | ((with_reducible show wpAny _ _ (eval (PySem.Expr.Attribute (PySem.Expr.Name _ _) _ _) _) _ _ _); k_dflt (refine qt0 ?_)) | (with_reducible refine qr0 ?_) | ((with_reducible show wpAny _ _ (call (Value.ref _) _ _) _ _ _); first | (with_reducible (k_here; (with_reducible show wpAny _ _ (call (Value.ref 330) _) _ _ _); k_dflt (refine' dot_use ?zzk1 ?zzk2 ?zzk3 ?zzk4 ?zzk5 ?zzk6 ?zzu1 ?zzu2 ?zzt1 ?zzt2 ?zzm0 ?zzm1 ?zzm2 ?zzm3 ?zzm4 ?zzm5 ?zzm6 ?zzm7 ?zzm8 ?zzm9 ?zzm10 ?zzm11 ?zzm12 ?zzm13 ?zzm14 ?zzm15 ?zzm16 ?zzm17 ?zzm18 ?zzm19 ?zzm20 ?zzm21 ?zzm22 ?zzm23 ?zzm24 ?zzhZ ?zzhF0 ?zzhF1 ?zzhG0 ?zzhG1 ?zzlF0 ?zzlF1 ?zzlG0 ?zzlG1 ?zzsF0 ?zzsF1 ?zzsG0 ?zzsG1 ?zzd1 ?zzd2 ?_; (case zzk1 => k_asm); (case zzk2 => k_asm); (case zzk3 => k_asm); (case zzk4 => k_asm); (case zzk5 => k_asm); (case zzk6 => first | exact rfl | assumption); (case zzu1 => k_updF); (case zzu2 => (intro o9; (try dsimp only); k_updF)); (case zzt1 => first | assumption | exact True.intro); (case zzt2 => first | assumption | exact True.intro); (case zzm0 => walk_at "mm"); (case zzm1 => walk_at "mm"); (case zzm2 => walk_at "mm"); (case zzm3 => walk_at "mm"); (case zzm4 => walk_at "mm"); (case zzm5 => walk_at "mm"); (case zzm6 => walk_at "mm"); (case zzm7 => walk_at "mm"); (case zzm8 => walk_at "mm"); (case zzm9 => walk_at "mm"); (case zzm10 => walk_at "mm"); (case zzm11 => walk_at "mm"); (case zzm12 => walk_at "mm"); (case zzm13 => walk_at "mm"); (case zzm14 => walk_at "mm"); (case zzm15 => walk_at "mm"); (case zzm16 => walk_at "mm"); (case zzm17 => walk_at "mm"); (case zzm18 => walk_at "mm"); (case zzm19 => walk_at "mm"); (case zzm20 => walk_at "mm"); (case zzm21 => walk_at "mm"); (case zzm22 => walk_at "mm"); (case zzm23 => walk_at "mm"); (case zzm24 => walk_at "mm"); (case zzhZ => assumption); (case zzhF0 => assumption); (case zzhF1 => assumption); (case zzhG0 => assumption); (case zzhG1 => assumption); (case zzlF0 => first | assumption | exact (show Row256 _ from by assumption).1); (case zzlF1 => first | assumption | exact (show Row256 _ from by assumption).1); (case zzlG0 => first | assumption | exact (show Row256 _ from by assumption).1); (case zzlG1 => first | assumption | exact (show Row256 _ from by assumption).1); (case zzsF0 => first | assumption | exact small_of (show Row256 _ from by assumption).2); (case zzsF1 => first | assumption | exact small_of (show Row256 _ from by assumption).2); (case zzsG0 => first | assumption | exact small_of (show Row256 _ from by assumption).2); (case zzsG1 => first | assumption | exact small_of (show Row256 _ from by assumption).2); (case zzd1 => ktr_room); (case zzd2 => first | assumption | decide); k_whole); (intro y9 dy9 c9 w9 z9 its9 kk9 h9 tk9 gs9 ps9 qs9 ht9 hq9 hI9 F9 N9 g5 g6 g7 hb9); (try dsimp only at N9); (try dsimp only at g5); (try dsimp only at g6); (try dsimp only at g7))) | (with_reducible (k_here; (with_reducible show wpAny _ _ (call (Value.ref 323) _) _ _ _); k_dflt (refine' matmul_use ?zzk1 ?zzk2 ?zzk3 ?zzk4 ?zzk5 ?zzk6 ?zzu1 ?zzu2 ?zzt1 ?zzt2 ?zzm0 ?zzm1 ?zzm2 ?zzm3 ?zzm4 ?zzm5 ?zzm6 ?zzm7 ?zzm8 ?zzm9 ?zzm10 ?zzm11 ?zzm12 ?zzm13 ?zzm14 ?zzm15 ?zzm16 ?zzm17 ?zzm18 ?zzm19 ?zzm20 ?zzm21 ?zzm22 ?zzm23 ?zzm24 ?zzhZ ?zzhF0 ?zzhF1 ?zzhG0 ?zzhG1 ?zzlF0 ?zzlF1 ?zzlG0 ?zzlG1 ?zzsF0 ?zzsF1 ?zzsG0 ?zzsG1 ?zzd1 ?zzd2 ?_; (case zzk1 => k_asm); (case zzk2 => k_asm); (case zzk3 => k_asm); (case zzk4 => k_asm); (case zzk5 => k_asm); (case zzk6 => first | exact rfl | assumption); (case zzu1 => k_updF); (case zzu2 => (intro o9; (try dsimp only); k_updF)); (case zzt1 => first | assumption | exact True.intro); (case zzt2 => first | assumption | exact True.intro); (case zzm0 => walk_at "mm"); (case zzm1 => walk_at "mm"); (case zzm2 => walk_at "mm"); (case zzm3 => walk_at "mm"); (case zzm4 => walk_at "mm"); (case zzm5 => walk_at "mm"); (case zzm6 => walk_at "mm"); (case zzm7 => walk_at "mm"); (case zzm8 => walk_at "mm"); (case zzm9 => walk_at "mm"); (case zzm10 => walk_at "mm"); (case zzm11 => walk_at "mm"); (case zzm12 => walk_at "mm"); (case zzm13 => walk_at "mm"); (case zzm14 => walk_at "mm"); (case zzm15 => walk_at "mm"); (case zzm16 => walk_at "mm"); (case zzm17 => walk_at "mm"); (case zzm18 => walk_at "mm"); (case zzm19 => walk_at "mm"); (case zzm20 => walk_at "mm"); (case zzm21 => walk_at "mm"); (case zzm22 => walk_at "mm"); (case zzm23 => walk_at "mm"); (case zzm24 => walk_at "mm"); (case zzhZ => assumption); (case zzhF0 => assumption); (case zzhF1 => assumption); (case zzhG0 => assumption); (case zzhG1 => assumption); (case zzlF0 => first | assumption | exact (show Row256 _ from by assumption).1); (case zzlF1 => first | assumption | exact (show Row256 _ from by assumption).1); (case zzlG0 => first | assumption | exact (show Row256 _ from by assumption).1); (case zzlG1 => first | assumption | exact (show Row256 _ from by assumption).1); (case zzsF0 => first | assumption | exact small_of (show Row256 _ from by assumption).2); (case zzsF1 => first | assumption | exact small_of (show Row256 _ from by assumption).2); (case zzsG0 => first | assumption | exact small_of (show Row256 _ from by assumption).2); (case zzsG1 => first | assumption | exact small_of (show Row256 _ from by assumption).2); (case zzd1 => ktr_room); (case zzd2 => first | assumption | decide); k_whole); (intro x9 dx9 D9 a9 y9 dy9 c9 t9 u9 v9 kd9 ka9 w9 z9 its9 kk9 h9 tk9 gs9 ps9 qs9 ht9 hq9 hI9 F9 N9 g1 g2 g3 g4 g5 g6 g7 hb9); (try dsimp only at N9); (try dsimp only at g1); (try dsimp only at g2); (try dsimp only at g3); (try dsimp only at g4); (try dsimp only at g5); (try dsimp only at g6); (try dsimp only at g7))) | (with_reducible (k_here; (with_reducible show wpAny _ _ (call (Value.ref _) [Value.ref _, Value.bool _]) _ _ _); k_dflt (refine' mod_two ?zzk1 ?zzk2 ?zzk3 ?zzk4 ?zzk5 ?zzk6 ?zzu1 ?zzt1 ?zzm1 ?zzm2 ?zzm3 ?zzm4 ?zzm5 ?zzm6 ?zzd1 ?_; (case zzk1 => k_asm); (case zzk2 => k_asm); (case zzk3 => k_asm); (case zzk4 => k_asm); (case zzk5 => k_asm); (case zzk6 => first | exact rfl | assumption); (case zzu1 => k_updF); (case zzt1 => first | assumption | exact True.intro); (case zzm1 => walk_at "mm"); (case zzm2 => walk_at "mm"); (case zzm3 => walk_at "mm"); (case zzm4 => walk_at "mm"); (case zzm5 => walk_at "mm"); (case zzm6 => walk_at "mm"); (case zzd1 => ktr_room); k_whole); (intro x9 dx9 t9 u9 v9 h9 tk9 gs9 ps9 ht9 g9 gg9 F9 N9 k9 hb9; clear k9); (try dsimp only at g9); (try dsimp only at gg9); (try dsimp only at N9))) | (with_reducible (k_here; (with_reducible show wpAny _ _ (call (Value.ref 662) _ _) _ _ _); (k_dflt (show wpAny _ _ (call (Value.ref 662) [Value.ref _, Value.ref _] [(Str.ofString "transpose", Value.bool _)]) _ _ _)); k_dflt (refine' mat_use ?zzk1 ?zzk2 ?zzk3 ?zzk4 ?zzk5 ?zzk6 ?zzm1 ?zzm2 ?zzm3 ?zzm4 ?zzz1 ?zzd1 ?_; (case zzk1 => k_asm); (case zzk2 => k_asm); (case zzk3 => k_asm); (case zzk4 => k_asm); (case zzk5 => k_asm); (case zzk6 => first | exact rfl | assumption); (case zzm1 => walk_at "mm"); (case zzm2 => walk_at "mm"); (case zzm3 => walk_at "mm"); (case zzm4 => walk_at "mm"); (case zzz1 => first | assumption | exact (show (2 : Nat) < 8 from by decide) | exact (show (1 : Nat) < 8 from by decide)); (case zzd1 => ktr_room); k_whole); (intro x9 dx9 t9 u9 v9 h9 tk9 g9 gg9 F9 N9 k9; clear k9); (try k_sweep))) | (with_reducible (k_here; (first | (with_reducible show wpAny _ _ (call (Value.ref _) [Value.ref _] (List.zip _ _)) _ _ _) | (with_reducible show wpAny _ _ (call (Value.ref _) [Value.ref _] [(_, Value.bool true)]) _ _ _) | (with_reducible show wpAny _ _ (call (Value.ref _) ([] ++ [Value.ref _]) (List.zip _ _)) _ _ _)); (k_dflt (show wpAny _ _ (call (Value.ref _) [Value.ref _] [(Str.ofString "is_ntt", Value.bool true)]) _ _ _)); k_dflt (refine' mk_use ?zzk1 ?zzk2 ?zzk3 ?zzk4 ?zzk5 ?zzk6 ?zzm1 ?zzm2 ?zzm3 ?zzi1 ?zzn1 ?zzd1 ?_; (case zzk1 => k_asm); (case zzk2 => k_asm); (case zzk3 => k_asm); (case zzk4 => k_asm); (case zzk5 => k_asm); (case zzk6 => first | exact rfl | assumption); (case zzm1 => walk_at "mm"); (case zzm2 => walk_at "mm"); (case zzm3 => walk_at "mm"); (case zzi1 => assumption); (case zzn1 => first | assumption | exact mulP_len _ _ _ | exact (show Row256 _ from by assumption).1); (case zzd1 => ktr_room); k_whole); (intro x9 dx9 u9 v9 h9 tk9 g9 gg9 F9 N9 k9; clear k9); (try k_sweep))) | (with_reducible (k_here; (with_reducible show wpAny _ _ (call (Value.ref 694) _) _ _ _); k_dflt (refine' root_con ?zzk1 ?zzk2 ?zzk3 ?zzk5 ?zzk6 _ _ ?zzi1 ?zzi2 ?zzd1 ?_; (case zzk1 => k_asm); (case zzk2 => k_asm); (case zzk3 => k_asm); (case zzk5 => k_asm); (case zzk6 => first | exact rfl | assumption); (case zzi1 => omega); (case zzi2 => omega); (case zzd1 => ktr_room); k_whole); (intro t9 h9 tk9 k9; have F9 := Fr.stays (by assumption) k9; have N9 := News.stays (by assumption) k9; clear k9))) | (with_reducible (k_here; (with_reducible show wpAny _ _ (call (Value.ref 687) _) _ _ _); k_dflt (refine' take_use ?zzk1 ?zzk2 ?zzk3 ?zzk4 ?zzk5 ?zzk6 ?zzu1 ?zzu2 ?zzi1 ?zzi2 ?zzi3 ?zzi4 ?zzi5 ?zzi6 ?zzi7 ?zzi8 ?zzi9 ?zzd1 ?_; (case zzk1 => k_asm); (case zzk2 => k_asm); (case zzk3 => k_asm); (case zzk4 => k_asm); (case zzk5 => k_asm); (case zzk6 => first | exact rfl | assumption); (case zzu1 => k_updF); (case zzu2 => (intro o9; (try dsimp only); k_updF)); (case zzi1 => assumption); (case zzi2 => assumption); (case zzi3 => omega); (case zzi4 => omega); (case zzi5 => omega); (case zzi6 => omega); (case zzi7 => omega); (case zzi8 => omega); (case zzi9 => k_ne); (case zzd1 => ktr_room); k_whole); (intro r9 t9 n9 tn9 vs9 ns9 h9 tk9 ra9 rb9 na9 nb9 hi9 hl9 hp9 F9 N9); (try dsimp only at N9); (try k_sweep))) | (with_reducible (k_here; (with_reducible show wpAny _ _ (call (Value.ref 699) _) _ _ _); k_dflt (refine' full_use ?zzk1 ?zzk2 ?zzk3 ?zzk4 ?zzk5 ?zzk6 ?zzu1 ?zzu2 ?zzi1 ?zzi2 ?zzi3 ?zzi4 ?zzi5 ?zzi6 ?zzi9 ?zzd1 ?_; (case zzk1 => k_asm); (case zzk2 => k_asm); (case zzk3 => k_asm); (case zzk4 => k_asm); (case zzk5 => k_asm); (case zzk6 => first | exact rfl | assumption); (case zzu1 => k_updF); (case zzu2 => (intro o9; (try dsimp only); k_updF)); (case zzi1 => assumption); (case zzi2 => assumption); (case zzi3 => omega); (case zzi4 => omega); (case zzi5 => omega); (case zzi6 => omega); (case zzi9 => k_ne); (case zzd1 => ktr_room); k_whole); (intro r9 ys9 c9 kk9 n9 tn9 vs9 ns9 h9 tk9 ya9 ro9 na9 nb9 hi9 hl9 hp9 F9 N9 g9); (try dsimp only at N9); (try dsimp only at g9))) | (with_reducible (k_here; (with_reducible show wpAny _ _ (call (Value.ref 437) _) _ _ _); k_dflt (refine' ring_use ?zzk1 ?zzk2 ?zzk3 ?zzk4 ?zzk5 ?zzk6 ?zzd1 ?_; (case zzk1 => k_asm); (case zzk2 => k_asm); (case zzk3 => k_asm); (case zzk4 => k_asm); (case zzk5 => k_asm); (case zzk6 => first | exact rfl | assumption); (case zzd1 => ktr_room); k_whole); (intro x9 dx9 z9 zs9 kz9 a9 b9 c9 d9 e9 f9 g9 h9 tk9 i9 l9 ll9 n9 F9 N9; (try dsimp only at l9); (try k_lt l9); (try k_lt2 ll9)))) | (with_reducible (k_here; (with_reducible show wpAny _ _ (call (Value.ref 680) _) _ _ _); k_dflt (refine' state_use ?zzk1 ?zzk2 ?zzk3 ?zzk4 ?zzk5 ?zzk6 ?zzl1 ?zzl2 ?zzl3 ?zzd1 ?_; (case zzk1 => k_asm); (case zzk2 => k_asm); (case zzk3 => k_asm); (case zzk4 => k_asm); (case zzk5 => k_asm); (case zzk6 => first | exact rfl | assumption); (case zzl1 => assumption); (case zzl2 => assumption); (case zzl3 => assumption); (case zzd1 => ktr_room); k_whole); (intro st9 ce9 vs9 ns9 t9 k19 k29 h9 tk9 i9 p9 q9 z9 n9 g9 gg9 F9 N9)))) | ((with_reducible show wpAny _ _ (compareOp _ (Value.ref _) (Value.ref _)) _ _ _); (with_reducible (k_here; (with_reducible show wpAny _ _ (compareOp CmpOp.Eq (Value.ref _) (Value.ref _)) _ _ _); k_dflt (refine' eq_same ?zzN ?zzm1 ?zzm2 ?zzhi ?zzhj ?zzhu ?_; (case zzN => k_asm); (case zzm1 => k_mem); (case zzm2 => k_mem); (case zzhi => assumption); (case zzhj => assumption); (case zzhu => units_room); k_whole)))) | ((with_reducible show wpAny _ _ (compareOp _ (Value.ref _) (Value.ref _)) _ _ _); (with_reducible (k_here; (with_reducible show wpAny _ _ (compareOp CmpOp.NotEq (Value.ref _) (Value.ref _)) _ _ _); k_dflt (refine' ne_pair ?zzN ?zzm1 ?zzm2 ?zzex ?zzey ?zzhu ?_; (case zzN => k_asm); (case zzm1 => k_mem); (case zzm2 => k_mem); (case zzex => exact told_first _ _ _ _ (by assumption) (by assumption)); (case zzey => exact told_second _ _ _ _ (by assumption) (by assumption)); (case zzhu => units_room); k_whole)))) | ((with_reducible show wpAny _ _ (subscriptTail _ _ _ _) _ _ _); (with_reducible (k_here; (with_reducible show wpAny _ _ (subscriptTail _ _ (Value.ref _) (Value.int _ _)) _ _ _); k_dflt (refine' item_lit ?zzk1 ?zzk2 ?zzk3 ?zzk4 ?zzk5 ?_ ?zzk6; (case zzk1 => k_asm); (case zzk2 => first | k_mem | (repeat (first | with_reducible assumption | with_reducible refine List.mem_cons_of_mem _ ?_))); (case zzk3 => decide); (case zzk4 => exact rfl); (case zzk5 => first | exact (show (4 : Nat) < 8 from by decide) | exact (show (2 : Nat) < 8 from by decide)); (case zzk6 => with_unfolding_all rfl); k_whole)))) | ((with_reducible show wpAny _ _ (subscriptTail _ _ _ _) _ _ _); (with_reducible (k_here; (with_reducible show wpAny _ _ (subscriptTail (PySem.Expr.Subscript _ _ _) (PySem.Expr.Slice _ _ none _) (Value.ref _) (Value.ref _)) _ _ _); k_dflt (refine kba_turn (value' := PySem.Expr.Name (PySem.Str.ofString "_") ⟨0, 0, 0, 0⟩) (fun _ => rfl) ?_)))) | ((with_reducible show wpAny _ _ (subscriptTail _ _ _ _) _ _ _); (with_reducible (k_here; (with_reducible show wpAny _ _ (subscriptTail _ (PySem.Expr.Slice _ _ none _) (Value.ref _) (Value.ref _)) _ _ _); k_dflt (refine' slice_pair ?zzF ?zzN ?zzm ?zzi ?zzl ?zzh0 ?zzh1 ?zzh2 ?_ ?zzs ?zzt; (case zzF => k_asm); (case zzN => k_asm); (case zzm => first | k_mem | (repeat (first | with_reducible assumption | with_reducible refine List.mem_cons_of_mem _ ?_))); (case zzi => assumption); (case zzl => first | assumption | exact (show Row256 _ from by assumption).1 | exact addP_len _ _); (case zzh0 => omega); (case zzh1 => omega); (case zzh2 => omega); (case zzs => with_unfolding_all rfl); (case zzt => kmk_pure)); intro D9 u9 v9 h9 F9 N9 l9; (try dsimp only at l9); (try k_lt l9)))) | ((with_reducible show wpAny _ _ (getMethod (Value.ref _) _ _) _ _ _); (with_reducible (k_here; (first | (with_reducible show wpAny _ _ (getMethod (Value.ref _) (PySem.Str.ofString "ring") _) _ _ _) | (with_reducible show wpAny _ _ (getMethod (Value.ref _) (PySem.Str.ofString "parent") _) _ _ _)); k_dflt (refine' kmu_own ?zzk1 ?zzk2 ?zzk3 ?zzk4 ?zzk5 ?_; (case zzk1 => k_asm); (case zzk2 => k_asm); (case zzk3 => k_inst); (case zzk4 => k_is); (case zzk5 => k_is); k_whole)))) | ((with_reducible show wpAny _ _ (getAttr (Value.ref _) _ _) _ _ _); (with_reducible (k_here; k_dflt (refine' get_own ?zzk1 ?zzk2 ?zzk3 ?zzk4 ?zzk5 ?zzk6 ?zzk7 ?zzk8 ?zzk9 ?_; (case zzk1 => k_asm); (case zzk2 => k_asm); (case zzk3 => k_inst); (case zzk4 => k_is); (case zzk5 => k_is); (case zzk6 => k_is); (case zzk7 => k_is); (case zzk8 => k_get); (case zzk9 => k_handed); k_whole)))) | ((with_reducible show wpAny _ _ (call (Value.type "list") _ _) _ _ _); (with_reducible (k_here; (with_reducible show wpAny _ _ (call (Value.type "list") [Value.ref _]) _ _ _); k_dflt (refine' listcopy_use ?zzk1 ?zzk2 ?zzm1 ?zzi1 ?zzr1 ?_; (case zzk1 => k_asm); (case zzk2 => k_asm); (case zzm1 => k_mem); (case zzi1 => assumption); (case zzr1 => assumption); k_whole); (intro D9 c9 h9 F9 N9 l9; (try dsimp only at l9); (try k_lt l9))))) | ((with_reducible show wpAny _ _ (exec (Stmt.Assign _ _ _) _) _ _ _); (with_reducible (k_here; k_dflt (refine LCg.Assign_ListComp_U (F₀ := by k_asm) (by rfl) (by with_unfolding_all rfl) (by rfl) (by decide) (by rfl) (by decide) (by rfl) (by rfl) (by rfl) ?_)))) | ((with_reducible show wpAny _ _ (binaryOp _ (Value.ref _) (Value.ref _)) _ _ _); (with_reducible (k_here; (with_reducible show wpAny _ _ (binaryOp _ (Value.ref _) (Value.ref _)) _ _ _); k_dflt (refine' binop_K ?zzk1 ?zzk2 ?zzk3 ?zzk4 ?zzk5 ?zzk6 ?zzk7 ?_; (case zzk1 => k_asm); (case zzk2 => k_asm); (case zzk3 => k_inst); (case zzk4 => k_typeOf); (case zzk5 => k_is); (case zzk6 => k_is); (case zzk7 => k_is); k_whole)))) | ((with_reducible show wpAny _ _ (callWith _ (Value.ref _) _ _ _) _ _ _); (with_reducible (k_here; k_dflt (refine' callWith_ownKW ?zzk1 ?zzk2 ?zzk3 ?zzk4 ?zzk5 ?_; (case zzk1 => k_in); (case zzk2 => k_inst); (case zzk3 => rfl); (case zzk4 => k_is); (case zzk5 => exact rfl); k_whole)))) | ((with_reducible show wpAny _ _ (setItem (Value.ref _) (Value.int _ _) _) _ _ _); (with_reducible (k_here; (with_reducible show wpAny _ _ (setItem (Value.ref _) (Value.int _ _) _) _ _ _); k_dflt (refine' set_here ?zzk1 ?zzk2 ?zzk3 ?zzk4 ?zzk5 ?zzk6 ?zzk7 ?_; (case zzk1 => k_asm); (case zzk2 => k_asm); (case zzk3 => k_upd); (case zzk4 => decide); (case zzk5 => simp; done); (case zzk6 => decide); (case zzk7 => exact rfl); k_whole); intro h' F' N'; (simp only [List.setIfInBounds_toArray, Int.toNat_zero, Int.reduceToNat, List.set_cons_zero, List.set_cons_succ] at N'); (try k_sweep)))) | ((with_reducible show wpAny _ _ (getMethod (Value.ref _) _ _) _ _ _); (with_reducible (k_here; k_dflt (first | (refine' method_inst ?zzk1 ?zzk2 ?zzk3 ?zzk4 ?zzk5 ?zzk6 ?zzk7 ?_; (case zzk1 => k_asm); (case zzk2 => k_asm); (case zzk3 => k_inst); (case zzk4 => k_is); (case zzk5 => k_is); (case zzk6 => k_is); (case zzk7 => k_get); k_whole) | (refine' kmu_own ?zzk1 ?zzk2 ?zzk3 ?zzk4 ?zzk5 ?_; (case zzk1 => k_asm); (case zzk2 => k_asm); (case zzk3 => k_inst); (case zzk4 => k_is); (case zzk5 => k_is); k_whole) | (refine' kmu_sm ?zzk1 ?zzk2 ?zzk4 ?zzk5 ?zzk6 ?zzk7 ?zzk8 ?zzk9 ?zzk10 ?zzk11 ?zzk12 ?zzk13 ?zzk14 ?_; (case zzk1 => k_asm); (case zzk2 => k_asm); (case zzk4 => k_inst); (case zzk5 => k_is); (case zzk6 => k_is); (case zzk7 => k_is); (case zzk8 => k_is); (case zzk9 => k_is); (case zzk10 => k_is); (case zzk11 => decide +kernel); (case zzk12 => k_get); (case zzk13 => k_is); (case zzk14 => k_handed); k_whole))))) | walk1 | dsimp only)
                  refine ⟨rfl, ?zzkeep, rfl, ?zzbare, ?zzgrown⟩
                  case zzkeep => rw [hH0]; exact Fr.keep (by k_asm)
                  case zzbare =>
                    repeat (first | exact hb0 | refine (show AllBare _ → AllBare _ from by assumption) ?_)
                  case zzgrown => k_dflt (exact ⟨GrownAt.of (by k_asm) (by k_mem), GrownAt.of (by k_asm) (by k_mem), True.intro⟩)
end Mine
theorem PySem.Challenge.cw_yi0033_01_holds : PySem.Challenge.rw_yi0033_01.Holds := by
  exact Mine.law_holds
