import PyProof.Rows.All
import Wide.All
import OpenK.AllK
import Wide.FinOn
import PySem.Challenge.RW_pd0183_01
open PySem PySem.W PyProof.Rows
set_option Elab.async false
set_option linter.all false
def Mine.tstm (i : Nat) : Stmt := (PySem.Challenge.pw_pd0183_01.main.body[i]?).getD (.Pass ⟨0, 0, 0, 0⟩)
def Mine.tprog : Program := ⟨⟨Mine.tstm 0 :: Mine.tstm 1 :: Mine.tstm 2 :: Mine.tstm 3 :: Mine.tstm 4 :: Mine.tstm 5 :: Mine.tstm 6 :: Mine.tstm 7 :: Mine.tstm 8 :: Mine.tstm 9 :: Mine.tstm 10 :: Mine.tstm 11 :: Mine.tstm 12 :: Mine.tstm 13 :: Mine.tstm 14 :: Mine.tstm 15 :: Mine.tstm 16 :: Mine.tstm 17 :: Mine.tstm 18 :: Mine.tstm 19 :: Mine.tstm 20 :: Mine.tstm 21 :: Mine.tstm 22 :: Mine.tstm 23 :: Mine.tstm 24 :: Mine.tstm 25 :: Mine.tstm 26 :: Mine.tstm 27 :: Mine.tstm 28 :: Mine.tstm 29 :: Mine.tstm 30 :: Mine.tstm 31 :: Mine.tstm 32 :: Mine.tstm 33 :: Mine.tstm 34 :: Mine.tstm 35 :: [], PySem.Challenge.pw_pd0183_01.main.scope, false, PySem.Challenge.pw_pd0183_01.main.file, []⟩, [], [], [], [], PySem.Challenge.pw_pd0183_01.given⟩
def Mine.trow : OpenLaw := { PySem.Challenge.rw_pd0183_01 with prog := Mine.tprog }
theorem Mine.trow_eq : PySem.Challenge.rw_pd0183_01 = Mine.trow := by with_unfolding_all rfl
set_option maxRecDepth 100000 in
set_option maxHeartbeats 8000000 in
open_top hd0183 for Mine.trow
set_option maxRecDepth 100000
set_option maxHeartbeats 8000000
open PySem.Calls

namespace Mine
section
variable {prog : Program} {w : World} {A : Around} {E : Value → Shared → Prop} {s : Shared}
theorem sub_str : isSubtype (.type "str") (.type "str") = pure true := by rw [isSubtype_type]; kernel_rfl
theorem args_isn_3 (a b c : Value) : argsOk "issubclass.nested" ⟨[a, b, c], []⟩ := by unfold argsOk; kernel_rfl
theorem kind_isn : builtinKind "issubclass.nested" = none := by decide +kernel
theorem plain_isn : plainId "issubclass.nested" = true := by decide +kernel
theorem typeOf_meta_str : typeOf (.type "str") = pure (.type "type") := by kernel_rfl
theorem isn_str {dep : Int} {tk : Tok} : Meets (Builtin.«issubclass.nested» ⟨[.type "str", .type "str", .int dep tk], []⟩) (fun _ R s => ∀ tk', R (.ok (.ret (.bool true))) { s with toks := tk' }) := by
  intro prog w A R s hs
  obtain ⟨h, g, d, t, os⟩ := s
  have f1 := sub_str
  have f2 := typeOf_meta_str
  have f3 : (Value.type "type" == Value.type "type") = true := rfl
  have hq := hs t
  repeat (any_goals (first | assumption | (rw [f1]) | wp_step))
theorem isn_tup {tp : Addr} {tk : Tok} {cs rest : List Value} {n : Nat} {s : Shared} {Q : Fin → Shared → Prop} (hcs : cs = .type "str" :: rest)
    (htp : s.heap.get? tp = some { cls := .type "tuple", data := .seq cs.toArray n })
    (hq : ∀ tk', Q (.done (.ret (.bool true))) { s with toks := tk' }) : wpAny (model prog w) A (Builtin.«issubclass.nested» ⟨[.type "str", .ref tp, .int 0 tk], []⟩) Q E s := by
  obtain ⟨h, g, d, t, os⟩ := s
  have hT2 : (⟨h, g, d, t, os⟩ : Shared).TypeIs (.ref tp) "tuple" := ⟨_, htp, rfl⟩
  have f1 := F.isi_sub_tuple
  repeat (any_goals (first | assumption | wp_step))
  refine wpAny_arrayLoop ?_
  simp only [Option.getD_some, List.toList_toArray]
  rw [hcs, List.forIn_cons]
  refine wpAny_bind (wpAny_bind (call_function_meets kind_isn plain_isn F.entry_issubclass_nested (args_isn_3 _ _ _) isn_str (fun tk' => ?_)))
  show wpAny _ _ (truthy (.bool true) >>= _) _ _ _
  refine wpAny_bind (m := truthy (.bool true)) (wpAny_pure ?_)
  have hq' := hq tk'
  repeat (any_goals (first | assumption | wp_step))
theorem issubclass_str_tup {tp : Addr} {rest : List Value} {n : Nat} {Q : Value → Shared → Prop}
    (htp : s.heap.get? tp = some { cls := .type "tuple", data := .seq (.type "str" :: rest).toArray n })
    (hq : ∀ tk', Q (.bool true) { s with toks := tk' }) : wpAny (model prog w) A (call (.builtin "issubclass") [.type "str", .ref tp]) Q E s :=
  call_issubclass (S := fun _ R s => s.heap.get? tp = some { cls := .type "tuple", data := .seq (.type "str" :: rest).toArray n } ∧ ∀ tk', R (.ok (.ret (.bool true))) { s with toks := tk' })
    (fun _ _ _ _ _ hs => issubclass_outer (isn_tup rfl hs.1 hs.2)) ⟨htp, hq⟩
end
end Mine

namespace Mine
section
open LCg
theorem run_plain {prog : Program} {w : World} {A : Around} {R : Result → Shared → Prop} {s : Shared} {id : String} {args : Args} {b : Builtin} (hp : plainId id = true) (he : entryFor table id = some b) (h : wpAny (model prog w) A.in1 (b args) (fun fin s' => match fin with
    | .done f => R (.ok f) s'
    | .again c' => c'.quiet = true ∧ codeAny (model prog w) A c' R s') (fun e s' => R (.error e) s') s) : codeAny (model prog w) A (.builtin id args) R s := codeAny_builtin he (by rw [Around.under_plainId hp]; exact h)
theorem go_on {prog : Program} {w : World} {A : Around} {R : Result → Shared → Prop} {s : Shared} {id : String} {args : Args} {b : Builtin} (hp : plainId id = true) (he : entryFor table id = some b) (h : wpAny (model prog w) A.in1 (b args) (fun fin s' => match fin with
    | .done f => R (.ok f) s'
    | .again c' => c'.quiet = true ∧ codeAny (model prog w) A c' R s') (fun e s' => R (.error e) s') s) : (Code.builtin id args).quiet = true ∧ codeAny (model prog w) A (.builtin id args) R s := ⟨plainId_quiet hp _, run_plain hp he h⟩
theorem again_as {M : Model} {A : Around} {Q : Fin → Shared → Prop} {E : Value → Shared → Prop} {s : Shared} {id id' : String} {args : Args} (e : id = id') (h : wpAny M A (again (.builtin id' args)) Q E s) : wpAny M A (again (.builtin id args)) Q E s := by
  subst e
  exact h
structure Begun (prog : Program) (w : World) (A : Around) (h₀ : Heap) (L : Addr) (m : Str → Option Value) (news : List (Addr × Obj)) (n : Nat) (P : Nat → Value → Prop) (S : List (Addr × Obj) → Prop) (I : Addr) (s₂ : Shared) : Prop where
  ex : ∃ (fp : List Addr) (St : Nat → Heap → Prop), Walks prog w A I fp [I] n P St ∧ (∀ i h, St i h → ∃ o, h.get? I = some o) ∧
    (∀ i h h' o nw, St i h → h.get? I = some o → h'.get? I = some o → (∀ b o, h₀.get? b = some o → h'.get? b = some o) → News h₀ L h' nw → S nw → St i h') ∧ St 0 s₂.heap ∧ ∀ b ∈ fp, b < s₂.heap.objs.size
  F : Fr h₀ L s₂.heap m
  N : News h₀ L s₂.heap news
  hL : L ≠ I
  fresh : h₀.get? I = none
  above : ∀ p ∈ news, p.1 < I
  hS : S news
section
variable {prog : Program} {w : World} {A : Around} {E : Value → Shared → Prop} {s : Shared} {h₀ : Heap} {L : Addr} {m : Str → Option Value} {news : List (Addr × Obj)} {Q : Value → Shared → Prop}
theorem iter_list {a : Addr} {its : Array Value} (hh : A.handled = none) (F : Fr h₀ L s.heap m) (N : News h₀ L s.heap news) (hS : SrcAt h₀ a its news)
    (h : ∀ I h', Begun prog w A h₀ L m news its.size (fun i v => its[i]? = some v) (SrcAt h₀ a its) I { s with heap := h' } → Q (.ref I) { s with heap := h' }) :
    wpAny (model prog w) A (pyIter (.ref a)) Q E s := by
  have hl := hS.list F.keep N
  have hlt : a < s.heap.objs.size := by obtain ⟨_, e, _⟩ := hl; exact Heap.lt_size e
  refine wpAny_pyIter_list hl (h _ _ ?_)
  refine ⟨⟨_, _, Walks.list hh s.heap.objs.size a (Nat.ne_of_lt hlt) its, fun i h st => by obtain ⟨o, e, _⟩ := st.1; exact ⟨o, e⟩, list_st, ⟨⟨_, Heap.get?_push_size _ rfl, rfl, rfl⟩, hl.push _⟩, fun b hb => ?_⟩,
    F.push _, fun p hp => ⟨Heap.get?_push_of_some _ (N p hp).1, (N p hp).2⟩, Nat.ne_of_lt F.ns.lt, next_is_new F, fun p hp => Heap.lt_size (N p hp).1, hS⟩
  show b < (s.heap.push _).objs.size
  rw [Heap.size_push]
  rcases List.mem_cons.mp hb with rfl | hb
  · exact Nat.lt_succ_self _
  · rw [List.mem_singleton.mp hb]; exact Nat.lt_succ_of_lt hlt
noncomputable def TupAt (a : Addr) (its : Array Value) (news : List (Addr × Obj)) : Prop := ∃ n, (a, ({ cls := .type "tuple", data := .seq its n } : Obj)) ∈ news
theorem iter_tup {a : Addr} {its : Array Value} (hh : A.handled = none) (F : Fr h₀ L s.heap m) (N : News h₀ L s.heap news) (hS : TupAt a its news)
    (h : ∀ I h', Begun prog w A h₀ L m news its.size (fun i v => its[i]? = some v) (TupAt a its) I { s with heap := h' } → Q (.ref I) { s with heap := h' }) :
    wpAny (model prog w) A (pyIter (.ref a)) Q E s := by
  have ht : ∀ {h : Heap} {nw : List (Addr × Obj)}, News h₀ L h nw → TupAt a its nw → h.IsTuple a its := fun N q1z => by obtain ⟨n, hm⟩ := q1z; exact ⟨_, N.get hm, rfl, n, rfl⟩
  have hl := ht N hS
  have hlt : a < s.heap.objs.size := by obtain ⟨_, e, _⟩ := hl; exact Heap.lt_size e
  refine wpAny_pyIter_tuple hl (h _ _ ?_)
  refine ⟨⟨_, _, Walks.tuple hh s.heap.objs.size a (Nat.ne_of_lt hlt) its, fun i h st => by obtain ⟨o, e, _⟩ := st.1; exact ⟨o, e⟩,
      fun i h h' o nw st e e' _ N S => ⟨by obtain ⟨o', q, r⟩ := st.1; rw [e] at q; cases q; exact ⟨o, e', r⟩, ht N S⟩, ⟨⟨_, Heap.get?_push_size _ rfl, rfl, rfl⟩, hl.at fun o e => Heap.get?_push_of_some _ e⟩, fun b hb => ?_⟩,
    F.push _, fun p hp => ⟨Heap.get?_push_of_some _ (N p hp).1, (N p hp).2⟩, Nat.ne_of_lt F.ns.lt, next_is_new F, fun p hp => Heap.lt_size (N p hp).1, hS⟩
  show b < (s.heap.push _).objs.size
  rw [Heap.size_push]
  rcases List.mem_cons.mp hb with rfl | hb
  · exact Nat.lt_succ_self _
  · rw [List.mem_singleton.mp hb]; exact Nat.lt_succ_of_lt hlt
theorem iter_range {r : Addr} {a b c : Int} {t u v : Tok} {n : Nat} (hh : A.handled = none) (F : Fr h₀ L s.heap m) (N : News h₀ L s.heap news) (hr : IsRange s.heap r a b c t u v) (hsm : Builtin.Range.small a b c = true) (hn : Builtin.Range.rangeSize a b c = ((n : Nat) : Int))
    (h : ∀ I h', Begun prog w A h₀ L m news n (fun i v => ∃ t, v = .int (a + i * c) t) (fun _ => True) I { s with heap := h' } → Q (.ref I) { s with heap := h' }) :
    wpAny (model prog w) A (pyIter (.ref r)) Q E s := by
  refine wpAny_pyIter_range hr hsm (h _ _ ?_)
  refine ⟨⟨_, _, Walks.range hh s.heap.objs.size a c n, fun i h st => ⟨_, st⟩, fun i h h' o nw st e e' _ _ _ => by
      have st' : h.get? s.heap.objs.size = some _ := st
      show h'.get? s.heap.objs.size = some _
      rw [e', ← e]; exact st', by show IsRangeIter _ _ _ _ _; rw [hn]; simpa using Heap.get?_push_size _ rfl, fun b hb => ?_⟩,
    F.push _, fun p hp => ⟨Heap.get?_push_of_some _ (N p hp).1, (N p hp).2⟩, Nat.ne_of_lt F.ns.lt, next_is_new F, fun p hp => Heap.lt_size (N p hp).1, trivial⟩
  rw [List.mem_singleton.mp hb]
  show s.heap.objs.size < (s.heap.push _).objs.size
  rw [Heap.size_push]; exact Nat.lt_succ_self _
theorem iter_bytes {b : Array UInt8} {t : Tok} (hh : A.handled = none) (F : Fr h₀ L s.heap m) (N : News h₀ L s.heap news)
    (h : ∀ I h', Begun prog w A h₀ L m news b.size (fun i v => ∃ c u, b[i]? = some c ∧ v = .int (c.toNat : Int) u) (fun _ => True) I { s with heap := h' } → Q (.ref I) { s with heap := h' }) :
    wpAny (model prog w) A (pyIter (.bytes b t)) Q E s := by
  refine KBw.pyIter_bytes (h _ _ ?_)
  refine ⟨⟨_, _, KBw.walks hh s.heap.objs.size b t, fun i h st => by obtain ⟨o, e, _⟩ := st; exact ⟨o, e⟩, fun i h h' o nw st e e' _ _ _ => by
      obtain ⟨o', q, r⟩ := st; rw [e] at q; cases q; exact ⟨o, e', r⟩, ⟨_, Heap.get?_push_size _ rfl, rfl, rfl⟩, fun b hb => ?_⟩,
    F.push _, fun p hp => ⟨Heap.get?_push_of_some _ (N p hp).1, (N p hp).2⟩, Nat.ne_of_lt F.ns.lt, next_is_new F, fun p hp => Heap.lt_size (N p hp).1, trivial⟩
  rw [List.mem_singleton.mp hb]
  show s.heap.objs.size < (s.heap.push _).objs.size
  rw [Heap.size_push]; exact Nat.lt_succ_self _
end

end
end Mine

namespace Mine
section
open LCg
section
variable {prog : Program} {w : World} {A : Around} {E : Value → Shared → Prop} {s : Shared} {env : Env} {h₀ : Heap} {L I : Addr} {m : Str → Option Value} {n : Nat} {P : Nat → Value → Prop} {S : List (Addr × Obj) → Prop} {news : List (Addr × Obj)} {hh : Heap} {tt : Nat}
inductive FInv (h₀ : Heap) (L I : Addr) (n : Nat) (St : Nat → Heap → Prop) (J : Nat → (Str → Option Value) → List (Addr × Obj) → Prop) (s₂ : Shared) : Nat → Shared → Prop
  | mk {i h tk m nw} (hi : i ≤ n) (st : St i h) (F : Fr h₀ L h m) (N : News h₀ L h nw) (off : ∀ p ∈ nw, p.1 ≠ I) (hJ : J i m nw) : FInv h₀ L I n St J s₂ (n + 1 - i) { s₂ with heap := h, toks := tk }
theorem news_cons {h : Heap} {p : Addr × Obj} (e : h.get? p.1 = some p.2) (hL : p.1 ≠ L) (h0 : h₀.get? p.1 = none) (N : News h₀ L h news) : News h₀ L h (p :: news) := fun q hq => by
  cases hq with
  | head => exact ⟨e, hL, h0⟩
  | tail _ hq => exact N q hq
theorem drop1 {h : Heap} {p : Addr × Obj} (N : News h₀ L h (p :: news)) : News h₀ L h news := fun q hq => N q (.tail _ hq)
theorem for_R {x : Str} {px : Pos} {body orelse : List Stmt} {RR : Result → Shared → Prop} (B : Begun prog w A h₀ env.locals m news n P S I { s with heap := hh, toks := tt }) (hx : env.kindOf x = some .local)
    (hp : (env.scope.kind == .class || (env.scope.kind == .module && env.locals != env.globals)) = false)
    (J : Nat → (Str → Option Value) → List (Addr × Obj) → Prop) (K : (Str → Option Value) → List (Addr × Obj) → Prop) (hJS : ∀ i m nw, J i m nw → S nw) (h0 : J 0 m news)
    (turn : ∀ i v m₁ nw h tk oI (R : Flow → Shared → Prop), i < n → P i v → J i m₁ nw → (∀ p ∈ nw, @Ne Nat p.1 I) → Fr h₀ env.locals h (fun y => if y = x then some v else m₁ y) → News h₀ env.locals h ((I, oI) :: nw) →
      (∀ h' tk' m' nw', Fr h₀ env.locals h' m' → News h₀ env.locals h' ((I, oI) :: nw') → (∀ p ∈ nw', @Ne Nat p.1 I) → J (i + 1) m' nw' → R .next { s with heap := h', toks := tk' }) →
      (∀ h' tk' m' nw', Fr h₀ env.locals h' m' → News h₀ env.locals h' nw' → K m' nw' → R .brk { s with heap := h', toks := tk' }) →
      wpAny (model prog w) A (execs body env) R (fun _ _ => False) { s with heap := h, toks := tk })
    (fin : ∀ m₁ nw h tk (R : Flow → Shared → Prop), J n m₁ nw → Fr h₀ env.locals h m₁ → News h₀ env.locals h nw → (∀ h' tk' m' nw', Fr h₀ env.locals h' m' → News h₀ env.locals h' nw' → K m' nw' → R .next { s with heap := h', toks := tk' }) → wpAny (model prog w) A (execs orelse env) R (fun _ _ => False) { s with heap := h, toks := tk })
    (out : ∀ m₁ nw h tk, K m₁ nw → Fr h₀ env.locals h m₁ → News h₀ env.locals h nw → RR (.ok .next) { s with heap := h, toks := tk }) :
    codeAny (model prog w) A (.forLoop (.Name x px) (.ref I) body orelse env) RR { s with heap := hh, toks := tt } := by
  obtain ⟨⟨fp, St, W, hIo, hSt, hst, _⟩, F, N, hL, hI0, ab, _⟩ := B
  refine codeAny_forLoop (FInv h₀ env.locals I n St J s) ?_ (n + 1) (FInv.mk (i := 0) (Nat.zero_le _) hst F N (fun p hp => Nat.ne_of_lt (ab p hp)) h0)
  intro k s' hk
  cases hk with
  | @mk i h tk m' nw hi st F N off hJ =>
    by_cases hlt : i < n
    · refine W.item i _ _ _ hlt st fun v h₁ tk₁ hP st₁ hk₁ => ?_
      refine wpAny_assign_Name (wpAny_storeName_local hx (fr_but F hk₁ hL hI0).ns (fun h₂ hn₂ hs₂ => ?_) hp)
      obtain ⟨oI, e₁⟩ := hIo _ _ st₁
      have e₂ := hs₂.extBut _ _ (Ne.symm hL) e₁
      have F₂ := (fr_but F hk₁ hL hI0).set hn₂ hs₂
      refine wpAny_mono (turn i v m' nw h₂ _ oI (fun f s₃ => match f with
          | .next | .cont => ∃ m, m < n + 1 - i ∧ FInv h₀ env.locals I n St J s m s₃
          | .brk => RR (.ok .next) s₃
          | .ret v => RR (.ok (.ret v)) s₃) hlt hP hJ off F₂ (news_cons e₂ (Ne.symm hL) hI0 ((news_but N hk₁ off).set hs₂))
        (fun h' tk' m'' nw' F' N' off' hJ' => ⟨_, Nat.sub_lt_sub_left (Nat.lt_succ_of_lt hlt) (Nat.lt_succ_self i), .mk hlt (hSt _ _ _ _ _ (hSt _ _ _ _ _ st₁ e₁ e₂ F₂.keep ((news_but N hk₁ off).set hs₂) (hJS _ _ _ hJ)) e₂ (N' _ (.head _)).1 F'.keep (drop1 N') (hJS _ _ _ hJ')) F' (drop1 N') off' hJ'⟩)
        (fun h' tk' m'' nw' F' N' k => out m'' nw' h' tk' k F' N')) (fun f s₃ q => q) fun _ _ e => e.elim
    · cases Nat.le_antisymm hi (Nat.not_lt.mp hlt)
      refine W.done _ _ _ st fun h₁ tk₁ hk₁ => ?_
      exact wpAny_mono (fin m' nw h₁ tk₁ (fun f s₃ => RR (.ok f) s₃) hJ (fr_but F hk₁ hL hI0) (news_but N hk₁ off) fun h' tk' m'' nw' F' N' k => out m'' nw' h' tk' k F' N') (fun _ _ q => q) fun _ _ e => e.elim

noncomputable def CompR (prog : Program) (w : World) (A : Around) (h₀ : Heap) (L : Addr) (m : Str → Option Value) (env : Env) (e : Expr) (scope : Scope) (cl : List (Str × Addr)) (Fin : List Value → List (Addr × Obj) → Prop) (it : Value) (s : Shared) : Prop :=
  ∀ (E : Value → Shared → Prop) (RR : Value → Addr → Result → Shared → Prop),
    (∀ D C h tk m' ys news', Fr h₀ L h m → News h₀ L h ((D, lst ys) :: news') → Off1 D news' → h.Ns C m' → h₀.get? C = none → h₀.get? D = none → C ≠ L → D ≠ L → C ≠ D → (∀ p ∈ news', p.1 ≠ C) → Fin ys news' → RR (.ref D) C (.ok .next) { s with heap := h, toks := tk }) →
    wpAny (model prog w) A (newList []) (fun acc s₃ => wpAny (model prog w) A (newFunctionEnv scope env.globals cl [] env.qual none .none (some env)) (fun cenv s₄ =>
      codeAny (model prog w) A (.compStart e 0 it acc { cenv with scope := relabel scope env }) (RR acc cenv.locals) s₄) E s₃) E s
theorem news_same {D C : Addr} {h h' : Heap} {o : Obj} (N : News h₀ L h ((D, o) :: news)) (hs : Heap.SameBut C h h') (hCD : C ≠ D) (off : ∀ p ∈ news, p.1 ≠ C) : News h₀ L h' ((D, o) :: news) := fun p hp =>
  ⟨hs.extBut _ _ (by cases hp with | head => exact Ne.symm hCD | tail _ hp => exact off p hp) (N p hp).1, (N p hp).2⟩
theorem comp_E {elt tgt iter : Expr} {ifs : List Expr} {gs : List Comprehension} {scope : Scope} {cl : List (Str × Addr)} {pos : Pos} {Q : Value → Shared → Prop}
    (hclos : closureFor scope env = pure cl) (hkind : scope.kind = .function) (hnames : ∀ y ∈ scope.names, y.2 = .local → scope.names.lookup y.1 = some .local)
    (h : wpAny (model prog w) A (eval iter env) (fun xv s₁ => wpAny (model prog w) A (pyIter xv) (fun it s₂ => CompR prog w A h₀ L m env (.ListComp elt (⟨tgt, iter, ifs, 0⟩ :: gs) scope pos) scope cl (FinE h₀ L m s₂ Q) it s₂) E s₁) E s)
    (hs : ∀ x, foldedSetIterable iter env x = pure x) :
    wpAny (model prog w) A (eval (.ListComp elt (⟨tgt, iter, ifs, 0⟩ :: gs) scope pos) env) Q E s := by
  rw [eval_ListComp]
  refine wpAny_comprehension_free (use := none) rfl hs hclos hkind hnames (wpAny_mono h (fun xv s₁ h₁ => wpAny_mono h₁ (fun it s₂ h₂ => h₂ _ _ ?_) fun _ _ e => e) fun _ _ e => e)
  intro D C h tk m' ys news' F' N' o1 hn hC₀ _ hCL _ hCD offC fin
  exact ⟨m', hn, fun h'' hs'' => fin D h'' tk (F'.change hs'' hCL hC₀) (news_same N' hs'' hCD offC) o1⟩
theorem comp_A {elt tgt iter : Expr} {ifs : List Expr} {gs : List Comprehension} {y : Str} {py : Pos} {scope : Scope} {cl : List (Str × Addr)} {pos spos : Pos} {Q : Flow → Shared → Prop}
    (hsw : swapsWith (.ListComp elt (⟨tgt, iter, ifs, 0⟩ :: gs) scope pos) (some (.Name y py)) spos.line env = pure true)
    (hclos : closureFor scope env = pure cl) (hkind : scope.kind = .function) (hnames : ∀ z ∈ scope.names, z.2 = .local → scope.names.lookup z.1 = some .local)
    (hy : env.kindOf y = some .local) (hp : (env.scope.kind == .class || (env.scope.kind == .module && env.locals != env.globals)) = false)
    (h : wpAny (model prog w) A (eval iter env) (fun xv s₁ => wpAny (model prog w) A (pyIter xv) (fun it s₂ => CompR prog w A h₀ env.locals m env (.ListComp elt (⟨tgt, iter, ifs, 0⟩ :: gs) scope pos) scope cl (FinA h₀ env.locals m s₂ y Q) it s₂) E s₁) E s)
    (hs : ∀ x, foldedSetIterable iter env x = pure x) :
    wpAny (model prog w) A (exec (.Assign [.Name y py] (.ListComp elt (⟨tgt, iter, ifs, 0⟩ :: gs) scope pos) spos) env) Q E s := by
  rw [exec_Assign_Name_used _ _ _ _ hsw]
  refine wpAny_bind (wpAny_standAt (wpAny_bind ?_))
  show wpAny _ A (do let _ ← comprehension (.ListComp elt (⟨tgt, iter, ifs, 0⟩ :: gs) scope pos) scope env _ (newList []) false (eval iter env) (some (assign (.Name y py) env))) _ _ s
  refine wpAny_bind (wpAny_mono (wpAny_comprehension_free (use := some (assign (.Name y py) env)) (Q := fun _ s' => Q .next s') rfl hs hclos hkind hnames
    (wpAny_mono h (fun xv s₁ h₁ => wpAny_mono h₁ (fun it s₂ h₂ => h₂ _ _ ?_) fun _ _ e => e) fun _ _ e => e)) (fun _ s' hq => wpAny_pure (wpAny_pure hq)) fun _ _ e => e)
  intro D C h' tk m' ys news' F' N' o1 hn hC₀ hD₀ hCL hDL hCD offC fin
  refine wpAny_assign_Name (wpAny_storeName_local hy F'.ns (fun h₂ hn₂ hs₂ => ?_) hp)
  exact ⟨m', hn.sameBut hs₂ hCL, fun h'' hs'' => fin D h'' _ ((F'.set hn₂ hs₂).change hs'' hCL hC₀) (news_same (N'.set hs₂) hs'' hCD offC) o1⟩
section
variable {elt iter : Expr} {x : Str} {px pos : Pos} {scope : Scope} {cl : List (Str × Addr)} {Fin : List Value → List (Addr × Obj) → Prop}
theorem rest_R (J : Nat → List Value → List (Addr × Obj) → Prop) (hJS : ∀ i ys nw, J i ys nw → S nw)
    (turn : ∀ i v ys nw I oI C oC D m₂ h tk (R : Value → Shared → Prop), i < n → P i v → J i ys nw → NsObj oC m₂ → m₂ x = some v → Fr h₀ L h m → News h₀ L h ((I, oI) :: (C, oC) :: (D, lst ys) :: nw) → Off3 I C D nw → ((@Ne Nat I C) ∧ (@Ne Nat I D) ∧ (@Ne Nat C D)) →
      (∀ y h' tk' nw', Fr h₀ L h' m → News h₀ L h' ((I, oI) :: (C, oC) :: (D, lst ys) :: nw') → Off3 I C D nw' → J (i + 1) (ys ++ [y]) nw' → R y { s with heap := h', toks := tk' }) →
      wpAny (model prog w) A (eval elt (compEnvC scope cl C env)) R (fun _ _ => False) { s with heap := h, toks := tk })
    (fin : ∀ ys nw, J n ys nw → Fin ys nw) : ∀ (j i : Nat) (ys : List Value) (nw : List (Addr × Obj)), i + j = n → J i ys nw → CompRest prog w A h₀ L m env elt x scope cl { s with heap := hh, toks := tt } S P Fin j i ys nw
  | 0, i, ys, nw, hi, hy => CompRest.zero (fin ys nw ((show i = n from hi) ▸ hy))
  | j + 1, i, ys, nw, hi, hy => CompRest.succ fun v I oI C oC D m₂ h tk _ hv hC hx F N off ne =>
    wpAny_mono (turn i v ys nw I oI C oC D m₂ h tk _ (hi ▸ Nat.lt_add_of_pos_right (Nat.succ_pos j)) hv hy hC hx F N off ne fun y h' tk' nw' F' N' off' hJ => ⟨h', tk', nw', rfl, F', N', off', hJS _ _ _ hJ, rest_R J hJS turn fin j (i + 1) _ _ ((Nat.succ_add_eq_add_succ i j).trans hi) hJ⟩) (fun _ _ q => q) fun _ _ e => e.elim
theorem comp_grow (hcell : ∀ y ∈ scope.names, y.2 ≠ .cell) (hkind : scope.kind = .function) (hx : scope.names.lookup x = some .local) (hz : n ≤ sizeLine) (B : Begun prog w A h₀ L m news n P S I { s with heap := hh, toks := tt })
    (J : Nat → List Value → List (Addr × Obj) → Prop) (hJS : ∀ i ys nw, J i ys nw → S nw) (h0 : J 0 [] news)
    (turn : ∀ i v ys nw I oI C oC D m₂ h tk (R : Value → Shared → Prop), i < n → P i v → J i ys nw → NsObj oC m₂ → m₂ x = some v → Fr h₀ L h m → News h₀ L h ((I, oI) :: (C, oC) :: (D, lst ys) :: nw) → Off3 I C D nw → ((@Ne Nat I C) ∧ (@Ne Nat I D) ∧ (@Ne Nat C D)) →
      (∀ y h' tk' nw', Fr h₀ L h' m → News h₀ L h' ((I, oI) :: (C, oC) :: (D, lst ys) :: nw') → Off3 I C D nw' → J (i + 1) (ys ++ [y]) nw' → R y { s with heap := h', toks := tk' }) →
      wpAny (model prog w) A (eval elt (compEnvC scope cl C env)) R (fun _ _ => False) { s with heap := h, toks := tk })
    (fin : ∀ ys nw, J n ys nw → Fin ys nw) : CompR prog w A h₀ L m env (.ListComp elt [⟨.Name x px, iter, [], 0⟩] scope pos) scope cl Fin (.ref I) { s with heap := hh, toks := tt } := by
  intro E RR hRR
  obtain ⟨⟨fp, St, W, hIo, hSt, hst, hfp⟩, F, N, hL, hI0, ab, hS⟩ := B
  exact block_U W hz hIo hSt hcell hkind hx hst hfp F N hL hI0 (fun p hp => Nat.ne_of_lt (ab p hp)) hS (rest_R J hJS turn fin n 0 [] news (Nat.zero_add _) h0) hRR
theorem rest_RT {ct : Expr} (K : Nat → List Value → Prop)
    (turn : ∀ i v ys I oI C oC D m₂ h tk (R : Value → Shared → Prop) (R₀ : Shared → Prop), i < n → P i v → K i ys → NsObj oC m₂ → m₂ x = some v → Fr h₀ L h m → News h₀ L h ((I, oI) :: (C, oC) :: (D, lst ys) :: news) →
      (∀ y h' tk', Fr h₀ L h' m → News h₀ L h' ((I, oI) :: (C, oC) :: (D, lst ys) :: news) → K (i + 1) (ys ++ [y]) → R y { s with heap := h', toks := tk' }) →
      (∀ h' tk', Fr h₀ L h' m → News h₀ L h' ((I, oI) :: (C, oC) :: (D, lst ys) :: news) → K (i + 1) ys → R₀ { s with heap := h', toks := tk' }) →
      wpAny (model prog w) A (isTrue ct (compEnvC scope cl C env) (eval ct (compEnvC scope cl C env))) (fun ok s' => if ok = true then wpAny (model prog w) A (eval elt (compEnvC scope cl C env)) R (fun _ _ => False) s' else R₀ s') (fun _ _ => False) { s with heap := h, toks := tk })
    (hS : S news) (fin : ∀ ys, K n ys → Fin ys news) : ∀ (j i : Nat) (ys : List Value), i + j = n → K i ys → LCt.CompRestT prog w A h₀ L m env ct elt x scope cl { s with heap := hh, toks := tt } S P Fin j i ys news
  | 0, i, ys, hi, hy => LCt.CompRestT.zero (fin ys ((show i = n from hi) ▸ hy))
  | j + 1, i, ys, hi, hy => LCt.CompRestT.succ fun v I oI C oC D m₂ h tk E' hv hC hx F N off ne =>
    wpAny_mono (turn i v ys I oI C oC D m₂ h tk _ (fun s' => CompEnd h₀ L m { s with heap := h, toks := tk } I oI C oC D (lst ys) S (fun _ nw => LCt.CompRestT prog w A h₀ L m env ct elt x scope cl { s with heap := hh, toks := tt } S P Fin j (i + 1) ys nw) Value.none s') (hi ▸ Nat.lt_add_of_pos_right (Nat.succ_pos j)) hv hy hC hx F N
      (fun y h' tk' F' N' k => (⟨h', tk', news, rfl, F', N', off, hS, rest_RT K turn hS fin j (i + 1) _ ((Nat.succ_add_eq_add_succ i j).trans hi) k⟩ : CompEnd h₀ L m { s with heap := h, toks := tk } I oI C oC D (lst ys) S (fun y nw => LCt.CompRestT prog w A h₀ L m env ct elt x scope cl { s with heap := hh, toks := tt } S P Fin j (i + 1) (ys ++ [y]) nw) y _))
      (fun h' tk' F' N' k => ⟨h', tk', news, rfl, F', N', off, hS, rest_RT K turn hS fin j (i + 1) _ ((Nat.succ_add_eq_add_succ i j).trans hi) k⟩))
      (fun ok s' q => by
        cases ok with
        | true => exact wpAny_mono q (fun _ _ q => q) fun _ _ e => e.elim
        | false => exact q) fun _ _ e => e.elim
theorem comp_test {ct : Expr} (hcell : ∀ y ∈ scope.names, y.2 ≠ .cell) (hkind : scope.kind = .function) (hx : scope.names.lookup x = some .local) (hz : n ≤ sizeLine) (B : Begun prog w A h₀ L m news n P S I { s with heap := hh, toks := tt }) (K : Nat → List Value → Prop) (h0 : K 0 [])
    (turn : ∀ i v ys I oI C oC D m₂ h tk (R : Value → Shared → Prop) (R₀ : Shared → Prop), i < n → P i v → K i ys → NsObj oC m₂ → m₂ x = some v → Fr h₀ L h m → News h₀ L h ((I, oI) :: (C, oC) :: (D, lst ys) :: news) →
      (∀ y h' tk', Fr h₀ L h' m → News h₀ L h' ((I, oI) :: (C, oC) :: (D, lst ys) :: news) → K (i + 1) (ys ++ [y]) → R y { s with heap := h', toks := tk' }) →
      (∀ h' tk', Fr h₀ L h' m → News h₀ L h' ((I, oI) :: (C, oC) :: (D, lst ys) :: news) → K (i + 1) ys → R₀ { s with heap := h', toks := tk' }) →
      wpAny (model prog w) A (isTrue ct (compEnvC scope cl C env) (eval ct (compEnvC scope cl C env))) (fun ok s' => if ok = true then wpAny (model prog w) A (eval elt (compEnvC scope cl C env)) R (fun _ _ => False) s' else R₀ s') (fun _ _ => False) { s with heap := h, toks := tk })
    (fin : ∀ ys, K n ys → Fin ys news) : CompR prog w A h₀ L m env (.ListComp elt [⟨.Name x px, iter, [ct], 0⟩] scope pos) scope cl Fin (.ref I) { s with heap := hh, toks := tt } := by
  intro E RR hRR
  obtain ⟨⟨fp, St, W, hIo, hSt, hst, hfp⟩, F, N, hL, hI0, ab, hS⟩ := B
  exact LCt.block_T W hz hIo hSt hcell hkind hx hst hfp F N hL hI0 (fun p hp => Nat.ne_of_lt (ab p hp)) hS (rest_RT K turn hS fin n 0 [] (Nat.zero_add _) h0) hRR
end
end
end
end Mine

namespace Mine
noncomputable abbrev slash : Str := Str.ofString "/"
noncomputable abbrev zeroWord : Str := Str.ofString "0x0"
noncomputable def nameOf (k : Nat) : Str := [Str.ofString "OPTIMIZED", Str.ofString "NEWLOCALS", Str.ofString "VARARGS", Str.ofString "VARKEYWORDS", Str.ofString "NESTED", Str.ofString "GENERATOR", Str.ofString "NOFREE", Str.ofString "COROUTINE", Str.ofString "ITERABLE_COROUTINE", Str.ofString "ASYNC_GENERATOR", Str.ofString "0x400"].getD k (Str.ofString "0x800")
noncomputable def bitsTo (n i : Nat) : List Nat := (List.range i).filter fun k => n.testBit k
noncomputable def wordsOf (n : Nat) : List Str := if n = 0 then [zeroWord] else (bitsTo n 12).map nameOf
noncomputable abbrev tupObj (vs : List Value) : Obj := { cls := .type "tuple", data := .seq vs.toArray }
noncomputable def cutHead (x : Str) : Str := PySem.Txt.slice x none (some (PySem.Txt.rfind x slash + 1))
noncomputable def cutTail (x : Str) : Str := PySem.Txt.slice x (some (PySem.Txt.rfind x slash + 1)) none
noncomputable def splitHead (x : Str) : Str := if ((cutHead x).length : Int) ≠ 0 ∧ (cutHead x != PySem.Txt.mul slash (cutHead x).length) = true then PySem.Txt.rstripChars (cutHead x) slash else cutHead x
noncomputable def joined (x y : Str) : Str := if PySem.Txt.endswith x slash = true then x ++ y else x ++ (slash ++ y)
noncomputable def octs (a b : Int) : List Int := [(a * 4096 + b).fdiv 65536, ((a * 4096 + b).fdiv 256).fmod 256, (a * 4096 + b).fmod 256]
noncomputable def octetsTo (ns : List Int) (i : Nat) : List Int := (List.range i).flatMap fun j => octs (ns.getD (2 * j) 0) (ns.getD (2 * j + 1) 0)
end Mine

namespace Mine
noncomputable abbrev PR : Program := Mine.trow.row.prog
structure Cx where
  w : World
  A : Around
  h₀ : Heap
  L : Addr
structure Ok (c : Cx) (k : Nat) : Prop where
  X : (hd0183.heap_39 c.w.params).In c.h₀
  T : ∃ loose mean mg mb, Top hd0183.view_39 loose mean mg mb c.h₀
  B : ∃ A₀ base e outer, Below A₀ base outer c.h₀ ∧ c.A.frames = some (e :: outer) ∧ e.frame = some c.L ∧ e.scope.kind = .function
  hh : c.A.handled = none
  hd : c.A.depth + k < recursionLimit
  hu : c.A.units + 16 * k < cLine
structure Cur (c : Cx) (m : Str → Option Value) (nw : List (Addr × Obj)) (h : Heap) : Prop where
  F : Fr c.h₀ c.L h m
  N : News c.h₀ c.L h nw
noncomputable def Wp {α : Type} (c : Cx) (t : Sem α) (Q : α → Shared → Prop) (s : Shared) (h : Heap) (tk : Nat) : Prop := ∀ E, wpAny (model PR c.w) c.A t Q E { s with heap := h, toks := tk }
noncomputable def Ev (c : Cx) (env : Env) (m : Str → Option Value) (nw : List (Addr × Obj)) (e : Expr) (P : Value → Prop) : Prop :=
  ∀ s h tk (Q : Value → Shared → Prop), Cur c m nw h → (∀ v h' tk', Cur c m nw h' → P v → Q v { s with heap := h', toks := tk' }) → Wp c (eval e env) Q s h tk
noncomputable def Tv (c : Cx) (env : Env) (m : Str → Option Value) (nw : List (Addr × Obj)) (e : Expr) (b : Bool) : Prop :=
  ∀ s h tk (Q : Bool → Shared → Prop), Cur c m nw h → (∀ h' tk', Cur c m nw h' → Q b { s with heap := h', toks := tk' }) → Wp c (isTrue e env (eval e env)) Q s h tk
noncomputable def Go (c : Cx) (env : Env) (b : List Stmt) (Q : Flow → Shared → Prop) (s : Shared) (h : Heap) (tk : Nat) : Prop := Wp c (execs b env) Q s h tk
noncomputable def IsI (n : Int) (v : Value) : Prop := ∃ t, v = .int n t
noncomputable def IsS (x : Str) (v : Value) : Prop := ∃ t, v = .str x t
section
variable {c : Cx} {env : Env} {m : Str → Option Value} {nw : List (Addr × Obj)} {pos p : Pos} {kk : Nat}
theorem Ev.int {n : Int} : Ev c env m nw (.Constant (.int n) kk pos) (IsI n) := fun _ _ _ _ C k _ => wpAny_Constant_int (k _ _ _ C ⟨_, rfl⟩)
theorem Ev.str {x : Str} : Ev c env m nw (.Constant (.str x) kk pos) (IsS x) := fun _ _ _ _ C k _ => Calls.Constant_str (k _ _ _ C ⟨_, rfl⟩)
theorem Ev.loc {x : Str} {v : Value} {P : Value → Prop} (hv : m x = some v) (hp : P v) (hL : env.locals = c.L) (hk : env.scope.kind = .function) (hl : env.kindOf x = some .local) (hd : (x == ("__debug__" : Str)) = false) :
    Ev c env m nw (.Name x pos) P := fun _ _ _ _ C k _ => wpAny_Name (wpAny_loadName_local hk hl (hL ▸ C.F.ns) hv (k _ _ _ C hp)) hd
theorem Ev.mono {e : Expr} {P P' : Value → Prop} (h : Ev c env m nw e P) (hp : ∀ v, P v → P' v) : Ev c env m nw e P' := fun s hh tk Q C k => h s hh tk Q C fun v h' tk' C' q => k v h' tk' C' (hp v q)
noncomputable def Op (op : Operator) (x y z : Int) : Prop := ∀ (w : World) (A : Around) (s : Shared) (Q E : Value → Shared → Prop) (t u : Tok), (∀ t' tk', Q (.int z t') { s with toks := tk' }) → wpAny (model PR w) A (binaryOp op (.int x t) (.int y u)) Q E s
theorem op_add {x y : Int} : Op .Add x y (x + y) := fun _ _ _ _ _ _ _ h => P.add_int (h _ _)
theorem op_sub {x y : Int} : Op .Sub x y (x - y) := fun _ _ _ _ _ _ _ h => P.sub_int (h _ _)
theorem op_and {x y : Int} : Op .BitAnd x y (Builtin.bitAnd x y) := fun _ _ _ _ _ _ _ h => and_int (h _ _)
theorem op_or {x y : Int} : Op .BitOr x y (Builtin.bitOr x y) := fun _ _ _ _ _ _ _ h => or_int (h _ _)
theorem op_shr {x y : Int} (hy : 0 ≤ y) : Op .RShift x y (x.fdiv (2 ^ y.toNat)) := fun _ _ _ _ _ _ _ h => rshift_int hy (h _ _)
theorem op_shl {x y : Int} (hy : 0 ≤ y) (hy2 : y ≤ 1000000) (hx : x.natAbs < 2 ^ 64) : Op .LShift x y (x * 2 ^ y.toNat) := fun _ _ _ _ _ _ _ h => lshift_int_small hy hy2 hx (h _ _)
theorem op_pow {x y : Int} (hy : 0 ≤ y) (hy2 : y ≤ 1000000) (hx : x.natAbs < 2 ^ 64) : Op .Pow x y (x ^ y.toNat) := fun _ _ _ _ _ _ _ h => pow_int_small hy hy2 hx (h _ _)
theorem op_mod {x y : Int} (hy : y ≠ 0) : Op .Mod x y (x.fmod y) := fun _ _ _ _ _ _ _ h => mod_int' hy (h _ _)
theorem op_fdiv {x y : Int} (hy : y ≠ 0) (hp : Builtin.divisionGoesByPylong x y = false) : Op .FloorDiv x y (x.fdiv y) := fun _ _ _ _ _ _ _ h => floordiv_int hy (h _ _) (Or.inl hp)
theorem op_mul {x y : Int} (hm : PySem.IntMulOk x y) : Op .Mult x y (x * y) := fun _ _ _ _ _ _ _ h => P.mul_int (h _ _) hm
theorem Ev.bin {a b : Expr} {op : Operator} {x y z : Int} (o : Op op x y z) (ha : Ev c env m nw a (IsI x)) (hb : Ev c env m nw b (IsI y)) : Ev c env m nw (.BinOp a op b pos) (IsI z) := fun s h tk Q C k E =>
  wpAny_BinOp (ha s h tk _ C (fun _ h1 tk1 C1 q1z => by obtain ⟨_, e1⟩ := q1z; subst e1; exact hb s h1 tk1 _ C1 (fun _ h2 tk2 C2 q2z => by obtain ⟨_, e2⟩ := q2z; subst e2; exact o _ _ _ _ _ _ _ fun t' tk' => k _ _ _ C2 ⟨_, rfl⟩) E) E)
theorem Ev.glob {k : Nat} {x : Str} {v : Value} (O : Ok c k) (e : nsIn (hd0183.heap_39 c.w.params) mainGlobals x = some (some v)) (hk : env.scope.kind = .function) (hx : env.kindOf x = some .globalImplicit) (hg : env.globals = mainGlobals) (hd : (x == ("__debug__" : Str)) = false) :
    Ev c env m nw (.Name x pos) (· = v) := fun s h tk Q C kq E => by
  obtain ⟨_, _, mg, _, T⟩ := O.T
  exact Name_function_global hk hx (loadGlobal_global (env := env) (show h.Ns env.globals mg from hg ▸ (T.keeps C.F.keep).g) (mg_of O.X T.g e) (kq _ _ _ C rfl)) hd
theorem Ev.built {k : Nat} {x : Str} {v : Value} (O : Ok c k) (e : nsIn (hd0183.heap_39 c.w.params) mainGlobals x = some none) (hv : bootBuiltins x = some v) (hn : x ≠ "__name__") (hk : env.scope.kind = .function) (hx : env.kindOf x = some .globalImplicit) (hg : env.globals = mainGlobals) (hb : env.builtins = builtinsNs) (hd : (x == ("__debug__" : Str)) = false) :
    Ev c env m nw (.Name x pos) (· = v) := fun s h tk Q C kq E => by
  obtain ⟨_, _, mg, mb, T⟩ := O.T
  exact Name_function_global hk hx (loadGlobal_builtin (env := env) (show h.Ns env.globals mg from hg ▸ (T.keeps C.F.keep).g) (mg_none_of O.X T.g e) (show h.Ns env.builtins mb from hb ▸ (T.keeps C.F.keep).b) ((T.builtins x hn).trans hv) (kq _ _ _ C rfl)) hd
noncomputable def Evs (c : Cx) (env : Env) (m : Str → Option Value) (nw : List (Addr × Obj)) (es : List Expr) (P : List Value → Prop) : Prop :=
  ∀ s h tk pos (Q : List Value → Shared → Prop), Cur c m nw h → (∀ vs h' tk', Cur c m nw h' → P vs → Q vs { s with heap := h', toks := tk' }) → Wp c (spliced (backTo pos (starEach es env))) Q s h tk
theorem Evs.nil : Evs c env m nw [] (· = []) := fun _ _ _ _ _ C k _ => args_nil (k _ _ _ C rfl)
theorem Evs.cons {e : Expr} {es : List Expr} {P : Value → Prop} {Ps : List Value → Prop} (h : Ev c env m nw e P) (hs : Evs c env m nw es Ps) (he : starEach (e :: es) env = (false, eval e env) :: starEach es env) :
    Evs c env m nw (e :: es) (fun vs => ∃ v r, vs = v :: r ∧ P v ∧ Ps r) := fun s hh tk pos Q C k E =>
  args_cons (h s hh tk _ C (fun v h1 tk1 C1 p => hs s h1 tk1 pos _ C1 (fun r h2 tk2 C2 q => k _ _ _ C2 ⟨v, r, rfl, p, q⟩) E) E) he
noncomputable def Cmp (op : CmpOp) (P P' : Value → Prop) (b : Bool) : Prop := ∀ (w : World) (A : Around) (s : Shared) (Q E : Value → Shared → Prop) (v u : Value), P v → P' u → Q (.bool b) s → wpAny (model PR w) A (compareOp op v u) Q E s
theorem cmp_eq {x y : Int} : Cmp .Eq (IsI x) (IsI y) (x == y) := fun _ _ _ _ _ _ _ q3z q4z h => by obtain ⟨_, e⟩ := q3z; obtain ⟨_, e'⟩ := q4z; subst e; subst e'; exact P.eq_int h
theorem cmp_ne {x y : Int} : Cmp .NotEq (IsI x) (IsI y) (x != y) := fun _ _ _ _ _ _ _ q5z q6z h => by obtain ⟨_, e⟩ := q5z; obtain ⟨_, e'⟩ := q6z; subst e; subst e'; exact P.ne_int h
theorem cmp_ge {x y : Int} : Cmp .GtE (IsI x) (IsI y) (decide (x ≥ y)) := fun _ _ _ _ _ _ _ q7z q8z h => by obtain ⟨_, e⟩ := q7z; obtain ⟨_, e'⟩ := q8z; subst e; subst e'; exact P.ge_int h
theorem Ev.cmp {a b : Expr} {op : CmpOp} {P P' : Value → Prop} {r : Bool} (o : Cmp op P P' r) (ha : Ev c env m nw a P) (hb : Ev c env m nw b P') (hm : behindInMarks op b = false) : Ev c env m nw (.Compare a [op] [b] pos) (· = .bool r) := fun s h tk Q C k E =>
  wpAny_Compare1 (ha s h tk _ C (fun _ h1 tk1 C1 p1 => hb s h1 tk1 _ C1 (fun _ h2 tk2 C2 p2 => o _ _ _ _ _ _ _ p1 p2 (k _ _ _ C2 rfl)) E) E) hm
theorem Tv.cmp {a b : Expr} {op : CmpOp} {P P' : Value → Prop} {r : Bool} (o : Cmp op P P' r) (ha : Ev c env m nw a P) (hb : Ev c env m nw b P') (hm : behindInMarks op b = false) : Tv c env m nw (.Compare a [op] [b] pos) r := fun s h tk Q C k E =>
  wpAny_isTrue_Compare1 (ha s h tk _ C (fun _ h1 tk1 C1 p1 => hb s h1 tk1 _ C1 (fun _ h2 tk2 C2 p2 => o _ _ _ _ _ _ _ p1 p2 (wpAny_truthy_bool (k _ _ C2))) E) E) hm
noncomputable def Truth (P : Value → Prop) (b : Bool) : Prop := ∀ (w : World) (A : Around) (s : Shared) (Q : Bool → Shared → Prop) (E : Value → Shared → Prop) (v : Value), P v → (∀ tk', Q b { s with toks := tk' }) → wpAny (model PR w) A (truthy v) Q E s
theorem truth_bool {b : Bool} : Truth (· = .bool b) b := fun _ _ s _ _ _ e h => by subst e; exact wpAny_truthy_bool (h s.toks)
theorem truth_int {x : Int} : Truth (IsI x) (x != 0) := fun _ _ s _ _ _ q9z h => by obtain ⟨_, e⟩ := q9z; subst e; exact P.truthy_int (h s.toks)
theorem Tv.val {e : Expr} {P : Value → Prop} {b : Bool} (o : Truth P b) (h : Ev c env m nw e P) (he : isTrue e env (eval e env) = (do let v ← eval e env; standAt e.pos; holding [v] (truthy v))) : Tv c env m nw e b := fun s hh tk Q C k E =>
  isTrue_plain (h s hh tk _ C (fun v h1 tk1 C1 p => o _ _ _ _ _ _ p fun tk2 => k _ tk2 C1) E) he
theorem Tv.not {e : Expr} {b : Bool} (h : Tv c env m nw e b) : Tv c env m nw (.UnaryOp .Not e pos) (!b) := fun s hh tk Q C k E =>
  isTrue_not (h s hh tk _ C (fun h1 tk1 C1 => k _ _ C1) E)
section
variable {s : Shared} {h : Heap} {tk : Nat} {Q : Flow → Shared → Prop} {rest body orelse : List Stmt} {x : Str} {e : Expr}
theorem go_nil (k : Q .next { s with heap := h, toks := tk }) : Go c env [] Q s h tk := fun _ => wpAny_execs_nil k
theorem go_seq {st : Stmt} (k : ∀ E, wpAny (model PR c.w) c.A (exec st env) (fun f s' => match f with | .next => wpAny (model PR c.w) c.A (execs rest env) Q E s' | f => Q f s') E { s with heap := h, toks := tk }) : Go c env (st :: rest) Q s h tk := fun E => wpAny_execs_cons (k E)
theorem store_go {v : Value} {h1 : Heap} {tk1 : Nat} (C1 : Cur c m nw h1) (hL : env.locals = c.L) (hl : env.kindOf x = some .local) (hp : (env.scope.kind == .class || (env.scope.kind == .module && env.locals != env.globals)) = false)
    (k : ∀ m' h' tk', Cur c m' nw h' → m' x = some v → (∀ z u, z ≠ x → m z = some u → m' z = some u) → Q .next { s with heap := h', toks := tk' }) (E : Value → Shared → Prop) : wpAny (model PR c.w) c.A (storeName env x v) (fun _ => Q .next) E { s with heap := h1, toks := tk1 } := by
  refine wpAny_storeName_local hl (hL ▸ C1.F.ns) (fun h' hn hs => ?_) hp
  rw [hL] at hn hs
  exact k (fun y => if y = x then some v else m y) _ _ ⟨C1.F.set hn hs, C1.N.set hs⟩ (if_pos rfl) fun z u hz e => (if_neg hz).trans e
theorem go_asg {P : Value → Prop} (C : Cur c m nw h) (d : Ev c env m nw e P)
    (k : ∀ v m' h' tk', P v → Cur c m' nw h' → m' x = some v → (∀ z u, z ≠ x → m z = some u → m' z = some u) → Go c env rest Q s h' tk')
    (hL : env.locals = c.L) (hl : env.kindOf x = some .local) (hp : (env.scope.kind == .class || (env.scope.kind == .module && env.locals != env.globals)) = false) (hs : swapsWith e (some (.Name x p)) pos.line env = pure false) :
    Go c env (.Assign [.Name x p] e pos :: rest) Q s h tk :=
  go_seq fun E => wpAny_Assign_Name (d s h tk _ C (fun v h1 tk1 C1 pv => store_go C1 hL hl hp (Q := fun f s' => match f with | .next => wpAny (model PR c.w) c.A (execs rest env) Q E s' | f => Q f s') (fun m' h' tk' C' e1 kp => k v m' h' tk' pv C' e1 kp E) E) E) hs
theorem go_ret {P : Value → Prop} (C : Cur c m nw h) (d : Ev c env m nw e P) (k : ∀ v h' tk', P v → Cur c m nw h' → Q (.ret v) { s with heap := h', toks := tk' }) : Go c env (.Return (some e) pos :: rest) Q s h tk :=
  go_seq fun E => wpAny_Return_some (d s h tk _ C (fun v h1 tk1 C1 pv => k v h1 tk1 pv C1) E)
theorem go_brk (k : Q .brk { s with heap := h, toks := tk }) : Go c env (.Break pos :: rest) Q s h tk := go_seq fun E => wpAny_Break k
noncomputable def Then (c : Cx) (env : Env) (rest : List Stmt) (Q : Flow → Shared → Prop) : Flow → Shared → Prop := fun f s' => match f with
  | .next => ∀ E, wpAny (model PR c.w) c.A (execs rest env) Q E s'
  | f => Q f s'
theorem Then.go (k : Go c env rest Q s h tk) : Then c env rest Q .next { s with heap := h, toks := tk } := k
theorem go_if {b : Bool} (C : Cur c m nw h) (d : Tv c env m nw e b) (k : ∀ h' tk', Cur c m nw h' → Go c env (if b then body else orelse) (Then c env rest Q) s h' tk') : Go c env (.If e body orelse pos :: rest) Q s h tk :=
  go_seq fun E => wpAny_If (d s h tk _ C (fun h1 tk1 C1 => by
    have := k h1 tk1 C1 E
    cases b <;> exact wpAny_mono this (fun f s' q => by cases f <;> first | exact q E | exact q) fun _ _ z => z) E)
noncomputable def IOp (op : Operator) (P P' R : Value → Prop) : Prop := ∀ (w : World) (A : Around) (s : Shared) (Q E : Value → Shared → Prop) (u v : Value), P u → P' v → (∀ r tk', R r → Q r { s with toks := tk' }) → wpAny (model PR w) A (inplaceOp op u v) Q E s
theorem iop_xor {x y : Int} : IOp .BitXor (IsI x) (IsI y) (IsI (Builtin.bitXor x y)) := fun _ _ _ _ _ _ _ q10z q11z h => by obtain ⟨_, e⟩ := q10z; obtain ⟨_, e'⟩ := q11z; subst e; subst e'; exact ixor_int (h _ _ ⟨_, rfl⟩)
theorem go_aug {op : Operator} {P P' R : Value → Prop} {u : Value} (C : Cur c m nw h) (hu : m x = some u) (pu : P u) (o : IOp op P P' R) (d : Ev c env m nw e P')
    (k : ∀ v m' h' tk', R v → Cur c m' nw h' → m' x = some v → (∀ z u, z ≠ x → m z = some u → m' z = some u) → Go c env rest Q s h' tk')
    (hL : env.locals = c.L) (hl : env.kindOf x = some .local) (hp : (env.scope.kind == .class || (env.scope.kind == .module && env.locals != env.globals)) = false) (hk : env.scope.kind = .function) :
    Go c env (.AugAssign (.Name x p) op e pos :: rest) Q s h tk :=
  go_seq fun E => wpAny_AugAssign_Name (wpAny_loadName_local hk hl (hL ▸ C.F.ns) hu (d s h tk _ C (fun v h1 tk1 C1 pv => o _ _ _ _ _ _ _ pu pv fun r tk2 pr =>
    store_go C1 hL hl hp (Q := fun f s' => match f with | .next => wpAny (model PR c.w) c.A (execs rest env) Q E s' | f => Q f s') (fun m' h' tk' C' e1 kp => k r m' h' tk' pr C' e1 kp E) E) E))
end
end
end Mine

namespace Mine
noncomputable def Dz (k : Nat) (f : Addr) (vs : List Value) (nw : List (Addr × Obj)) (Ret : Value → List (Addr × Obj) → Prop) (kws : List (Str × Value) := []) : Prop :=
  ∀ (c : Cx) m s h tk (Q : Value → Shared → Prop), Ok c k → Cur c m nw h → (∀ r tl h' tk', Cur c m (tl ++ nw) h' → (∀ q ∈ nw, ∀ p ∈ tl, @Ne Nat q.1 p.1) → Ret r tl → Q r { s with heap := h', toks := tk' }) → Wp c (call (.ref f) vs kws) Q s h tk
theorem enter {kws : List (Str × Value)} {k : Nat} {f : Addr} {nw : List (Addr × Obj)} {vs : List Value} {Ret : Value → List (Addr × Obj) → Prop} {name qual : Str} {params : Arguments} {body : List Stmt} {scope : Scope} {dV kV doc pm cdv ct oc : Value} {an od : Option Addr} {osl : Array (Option Value)} {binds : List (Str × Value)}
    (ho : ∀ w : World, (hd0183.heap_39 w.params).lookup f = some ⟨oc, od, .func (fnOf name qual params body scope dV kV doc pm an cdv ct), osl⟩) (hcd : ∀ w : World, codeIn (hd0183.heap_39 w.params) cdv qual = true)
    (hbind : ∀ (w : World) (s : Shared), (hd0183.heap_39 w.params).In s.heap → BindsTo s (fnOf name qual params body scope dV kV doc pm an cdv ct) ⟨vs, kws⟩ binds) (hloc : ∀ y ∈ binds, scope.names.lookup y.1 = some .local)
    (hco : scope.isCoroutine = false) (hgen : scope.isGenerator = false) (hk : scope.kind = .function) (hcell : ∀ x ∈ scope.names, x.2 ≠ .cell)
    (hb : ∀ (c : Cx) s h tk m (R : Flow → Shared → Prop), Ok c k → Cur c m nw h → (∀ x v, binds.reverse.lookup x = some v → m x = some v) →
      (∀ r tl h' tk' m' nw', Cur c m' nw' h' → (∀ p ∈ tl ++ nw, p ∈ nw') → (∀ q ∈ nw, ∀ p ∈ tl, @Ne Nat q.1 p.1) → Ret r tl → R (.ret r) { s with heap := h', toks := tk' }) → Go c (envOf qual scope c.L f cdv) body R s h tk) : Dz (k + 1) f vs nw Ret kws := by
  intro c m s h tk Q O C kQ E
  refine wpAny_call ?_
  obtain ⟨A₀, base, e, outer, B, hA, hf, hke⟩ := O.B
  obtain ⟨_, _, _, _, T⟩ := O.T
  refine PySem.W.code_def B C.F O.X C.N T hA hf hke (ho c.w) (hcd c.w) (Nat.lt_of_le_of_lt (Nat.le_add_right _ _) O.hd) (hbind c.w _ (O.X.keeps C.F.keep)) hloc (fun g L' h₁ FG F' N' B' X' T' => ?_) hco hgen hk hcell
  refine wpAny_mono (hb ⟨c.w, c.A.deeper (envOf qual scope L' f cdv), g, L'⟩ s h₁ _ (fun y => binds.reverse.lookup y) (fun fl s' => LeaveK c.h₀ c.L m g _ (match fl with | .ret v => v | _ => .none) s') ⟨X', ⟨_, _, _, _, T'⟩, ⟨c.A, base, envOf qual scope L' f cdv, e :: outer, B', Around.frames_deeper hA, rfl, hk⟩, O.hh, ?_, ?_⟩ ⟨F', N'⟩ (fun _ _ e => e) (fun r tl h' tk' m' nw' C' sub ord hr => ?_) _) (fun _ _ q => q) (fun _ _ z => z)
  · have := O.hd
    show c.A.depth + 1 + k < _
    rw [Nat.add_assoc, Nat.add_comm 1 k]
    exact this
  · have := O.hu
    exact Nat.lt_of_le_of_lt (Nat.add_le_add_right (Nat.add_le_add_left (show 3 ≤ 16 by decide) c.A.units) (16 * k)) (by rw [Nat.add_assoc, Nat.add_comm 16]; exact this)
  · exact leaveK_ C'.F C'.N fun F'' N'' => kQ r tl h' tk' ⟨F'', fun p hp => N'' p (sub p hp)⟩ ord hr
noncomputable def EvN (c : Cx) (env : Env) (m : Str → Option Value) (nw : List (Addr × Obj)) (e : Expr) (P : Value → List (Addr × Obj) → Prop) : Prop :=
  ∀ s h tk (Q : Value → Shared → Prop), Cur c m nw h → (∀ v tl h' tk', Cur c m (tl ++ nw) h' → (∀ q ∈ nw, ∀ p ∈ tl, @Ne Nat q.1 p.1) → P v tl → Q v { s with heap := h', toks := tk' }) → Wp c (eval e env) Q s h tk
section
variable {c : Cx} {env : Env} {m : Str → Option Value} {nw : List (Addr × Obj)} {pos p : Pos} {kk k : Nat} {e f : Expr} {es : List Expr}
theorem no_ord : ∀ q ∈ nw, ∀ p ∈ ([] : List (Addr × Obj)), @Ne Nat q.1 p.1 := fun _ _ _ h => nomatch h
theorem one_ord {a : Addr} {o : Obj} (h : ∀ p ∈ nw, @Ne Nat p.1 a) : ∀ q ∈ nw, ∀ p ∈ [(a, o)], @Ne Nat q.1 p.1 := fun q hq p hp => by cases hp with | head => exact h q hq | tail _ hp => cases hp
theorem EvN.call {a : Addr} {Ps : List Value → Prop} {R : Value → List (Addr × Obj) → Prop} (O : Ok c k) (hf : Ev c env m nw f (· = .ref a)) (kp : keepIn (hd0183.heap_39 c.w.params) (.ref a) = true) (ha : Evs c env m nw (e :: es) Ps) (D : ∀ vs, Ps vs → Dz k a vs nw R)
    (he : eval (.Call f (e :: es) [] pos) env = (do callWith pos (← eval f env) [] (backTo pos (starEach (e :: es) env)) (backToKw pos (keywordEach [] env)))) (hs : starEach (e :: es) env = (false, eval e env) :: starEach es env) (hp : (backTo pos (starEach es env)).any (·.1) = false) :
    EvN c env m nw (.Call f (e :: es) [] pos) R := fun s h tk Q C kq E =>
  Call_ (hf s h tk _ C (fun v h1 tk1 C1 ev => by
    subst ev
    exact callWith_K O.X kp (ha s h1 tk1 pos _ C1 (fun vs h2 tk2 C2 pv => ⟨O.X.keeps C2.F.keep, D vs pv c m s h2 tk2 Q O C2 (fun r tl h' tk' C' o hr => kq r tl h' tk' C' o hr) E⟩) E) hs hp) E) he
theorem Ev.of {P : Value → Prop} (h : EvN c env m nw e (fun v tl => P v ∧ tl = [])) : Ev c env m nw e P := fun s hh tk Q C k => h s hh tk Q C fun v tl h' tk' C' _ hp => by
  obtain ⟨hp, et⟩ := hp
  subst et
  exact k v h' tk' C' hp
theorem EvN.list {Ps : List Value → Prop} (ha : Evs c env m nw es Ps) (hz : ∀ vs, Ps vs → vs.length ≤ sizeLine) : EvN c env m nw (.List es pos) (fun v tl => ∃ l vs, v = .ref l ∧ tl = [(l, W.listOf (vs : List Value).toArray 0)] ∧ Ps vs) := fun s h tk Q C kq E =>
  List_ (ha s h tk pos _ C (fun vs h1 tk1 C1 pv => newList_K C1.F C1.N (fun l h' F' N' lt => kq _ [_] h' tk1 ⟨F', N'⟩ (one_ord fun p hp => Nat.ne_of_lt (lt p hp)) ⟨l, vs, rfl, rfl, pv⟩) (hz vs pv)) E)
section
variable {s : Shared} {h : Heap} {tk : Nat} {Q : Flow → Shared → Prop} {rest body orelse : List Stmt} {x : Str}
theorem go_asgN {P : Value → List (Addr × Obj) → Prop} (C : Cur c m nw h) (d : EvN c env m nw e P)
    (k : ∀ v tl m' h' tk', P v tl → (∀ q ∈ nw, ∀ p ∈ tl, @Ne Nat q.1 p.1) → Cur c m' (tl ++ nw) h' → m' x = some v → (∀ z u, z ≠ x → m z = some u → m' z = some u) → Go c env rest Q s h' tk')
    (hL : env.locals = c.L) (hl : env.kindOf x = some .local) (hp : (env.scope.kind == .class || (env.scope.kind == .module && env.locals != env.globals)) = false) (hs : swapsWith e (some (.Name x p)) pos.line env = pure false) :
    Go c env (.Assign [.Name x p] e pos :: rest) Q s h tk :=
  go_seq fun E => wpAny_Assign_Name (d s h tk _ C (fun v tl h1 tk1 C1 o pv => store_go C1 hL hl hp (Q := fun f s' => match f with | .next => wpAny (model PR c.w) c.A (execs rest env) Q E s' | f => Q f s') (fun m' h' tk' C' e1 kp => k v tl m' h' tk' pv o C' e1 kp E) E) E) hs
theorem go_retN {P : Value → List (Addr × Obj) → Prop} (C : Cur c m nw h) (d : EvN c env m nw e P) (k : ∀ v tl h' tk', P v tl → (∀ q ∈ nw, ∀ p ∈ tl, @Ne Nat q.1 p.1) → Cur c m (tl ++ nw) h' → Q (.ret v) { s with heap := h', toks := tk' }) : Go c env (.Return (some e) pos :: rest) Q s h tk :=
  go_seq fun E => wpAny_Return_some (d s h tk _ C (fun v tl h1 tk1 C1 o pv => k v tl h1 tk1 pv o C1) E)
theorem go_for {k : Nat} {n : Nat} {P : Nat → Value → Prop} {S : List (Addr × Obj) → Prop} {it : Expr} {px : Pos} (O : Ok c k) (J : Nat → (Str → Option Value) → List (Addr × Obj) → Prop) (K : (Str → Option Value) → List (Addr × Obj) → Prop)
    (d : ∀ (Q' : Value → Shared → Prop), (∀ I h' tk', Begun PR c.w c.A c.h₀ c.L m nw n P S I { s with heap := h', toks := tk' } → Q' (.ref I) { s with heap := h', toks := tk' }) → ∀ E, wpAny (model PR c.w) c.A (eval it env) (fun x s₁ => wpAny (model PR c.w) c.A (pyIter x) Q' E s₁) E { s with heap := h, toks := tk })
    (hJS : ∀ i m nw, J i m nw → S nw) (h0 : J 0 m nw)
    (turn : ∀ I i v m₁ nw₁ oI h tk (R : Flow → Shared → Prop), i < n → P i v → J i m₁ nw₁ → (∀ p ∈ nw₁, @Ne Nat p.1 I) → Cur c (fun y => if y = x then some v else m₁ y) ((I, oI) :: nw₁) h →
      (∀ h' tk' m' nw', Cur c m' ((I, oI) :: nw') h' → (∀ p ∈ nw', @Ne Nat p.1 I) → J (i + 1) m' nw' → R .next { s with heap := h', toks := tk' }) →
      (∀ h' tk' m' nw', Cur c m' nw' h' → K m' nw' → R .brk { s with heap := h', toks := tk' }) → Go c env body R s h tk)
    (fin : ∀ m₁ nw₁ h tk (R : Flow → Shared → Prop), J n m₁ nw₁ → Cur c m₁ nw₁ h → (∀ h' tk' m' nw', Cur c m' nw' h' → K m' nw' → R .next { s with heap := h', toks := tk' }) → Go c env orelse R s h tk)
    (out : ∀ m₁ nw₁ h tk, K m₁ nw₁ → Cur c m₁ nw₁ h → Go c env rest Q s h tk)
    (hL : env.locals = c.L) (hx : env.kindOf x = some .local) (hp : (env.scope.kind == .class || (env.scope.kind == .module && env.locals != env.globals)) = false) (hs : ∀ x, foldedSetIterable it env x = pure x) :
    Go c env (.For (.Name x px) it body orelse pos :: rest) Q s h tk := by
  cases c with | mk w A h₀ L =>
  cases hL
  exact go_seq fun E => wpAny_For (d _ (fun I h' tk' B => for_R B hx hp J K hJS h0 (fun i v m₁ nw₁ h tk oI R hi hv hJ off F N hR hB => turn I i v m₁ nw₁ oI h tk R hi hv hJ off ⟨F, N⟩ (fun h' tk' m' nw' F' N' => hR h' tk' m' nw' F'.F F'.N N') (fun h' tk' m' nw' C' => hB h' tk' m' nw' C'.F C'.N) _)
    (fun m₁ nw₁ h tk R hJ F N hR => fin m₁ nw₁ h tk R hJ ⟨F, N⟩ (fun h' tk' m' nw' C' => hR h' tk' m' nw' C'.F C'.N) _) (fun m₁ nw₁ h tk hK F N => out m₁ nw₁ h tk hK ⟨F, N⟩ E)) E) hs
end
end
end Mine

namespace Mine
section
variable {c : Cx} {env : Env} {m : Str → Option Value} {nw : List (Addr × Obj)} {pos p ap : Pos} {kk k : Nat} {e f o a b : Expr} {es : List Expr}
noncomputable def Bz (c : Cx) (m : Str → Option Value) (nw : List (Addr × Obj)) (f : Value) (vs : List Value) (R : Value → Prop) : Prop :=
  ∀ s h tk (Q : Value → Shared → Prop), Cur c m nw h → (∀ r h' tk', Cur c m nw h' → R r → Q r { s with heap := h', toks := tk' }) → Wp c (call f vs) Q s h tk
theorem Evs.one {P : Value → Prop} (h : Ev c env m nw a P) (hs : starEach [a] env = (false, eval a env) :: starEach [] env) : Evs c env m nw [a] (fun vs => ∃ v, vs = [v] ∧ P v) := fun s hh tk pos Q C k E =>
  args_cons (h s hh tk (fun v s₁ => wpAny _ _ (spliced (backTo pos (starEach [] env))) (fun vs s₂ => Q (v :: vs) s₂) E s₁) C (fun v h1 tk1 C1 p => args_nil (k _ _ _ C1 ⟨v, rfl, p⟩)) E) hs
theorem Evs.two {P P' : Value → Prop} (h : Ev c env m nw a P) (h' : Ev c env m nw b P') (hs : starEach [a, b] env = (false, eval a env) :: starEach [b] env) (hs' : starEach [b] env = (false, eval b env) :: starEach [] env) : Evs c env m nw [a, b] (fun vs => ∃ v u, vs = [v, u] ∧ P v ∧ P' u) := fun s hh tk pos Q C k E =>
  args_cons (h s hh tk _ C (fun v h1 tk1 C1 p => args_cons (h' s h1 tk1 (fun u s₁ => wpAny _ _ (spliced (backTo pos (starEach [] env))) (fun vs s₂ => Q (v :: u :: vs) s₂) E s₁) C1 (fun u h2 tk2 C2 p' => args_nil (k _ _ _ C2 ⟨v, u, rfl, p, p'⟩)) E) hs') E) hs
theorem Ev.fn {id : String} {Ps : List Value → Prop} {R : Value → Prop} (bz : ∀ vs, Ps vs → Bz c m nw (.builtin id) vs R) (hf : Ev c env m nw f (· = .builtin id)) (ha : Evs c env m nw (e :: es) Ps)
    (he : eval (.Call f (e :: es) [] pos) env = (do callWith pos (← eval f env) [] (backTo pos (starEach (e :: es) env)) (backToKw pos (keywordEach [] env)))) (hs : starEach (e :: es) env = (false, eval e env) :: starEach es env) (hp : (backTo pos (starEach es env)).any (·.1) = false) :
    Ev c env m nw (.Call f (e :: es) [] pos) R := fun s h tk Q C kq E =>
  Call_ (hf s h tk _ C (fun v h1 tk1 C1 ev => by
    subst ev
    exact callWith_method1 (ha s h1 tk1 pos _ C1 (fun vs h2 tk2 C2 pv => bz vs pv s h2 tk2 Q C2 kq E) E) hs hp) E) he
theorem Ev.meth {name : Str} {id : String} {pl : Sem Bool} {Po : Value → Prop} {Ps : List Value → Prop} {R : Value → Prop} (g : ∀ (A : Around) (s : Shared) (Q : Value × List Value → Shared → Prop) (E : Value → Shared → Prop) v, Po v → Q (.builtin id, [v]) s → wpAny (model PR c.w) A (getMethod v name pl) Q E s)
    (bz : ∀ v vs, Po v → Ps vs → Bz c m nw (.builtin id) (v :: vs) R) (ho : Ev c env m nw o Po) (ha : Evs c env m nw (e :: es) Ps)
    (he : eval (.Call (.Attribute o name ap) (e :: es) [] pos) env = (do
      let ov ← eval o env
      standAt ap.atName
      let (f, first) ← holding [ov] (getMethod ov name pl)
      callWith pos f first (backTo pos (starEach (e :: es) env)) [])) (hs : starEach (e :: es) env = (false, eval e env) :: starEach es env) (hp : (backTo pos (starEach es env)).any (·.1) = false) :
    Ev c env m nw (.Call (.Attribute o name ap) (e :: es) [] pos) R := fun s h tk Q C kq E =>
  MethodCall_ (ho s h tk _ C (fun v h1 tk1 C1 pv => g _ _ _ _ v pv (callWith_method1 (ha s h1 tk1 pos _ C1 (fun vs h2 tk2 C2 pvs => bz v vs pv pvs s h2 tk2 Q C2 kq E) E) hs hp)) E) he
noncomputable def SM (id : String) (x y : Str) (R : Value → Prop) : Prop := ∀ (w : World) (A : Around) (s : Shared) (Q E : Value → Shared → Prop) t u, (∀ r tk', R r → Q r { s with toks := tk' }) → wpAny (model PR w) A (call (.builtin id) [.str x t, .str y u]) Q E s
theorem SM.bz {id : String} {x y : Str} {R : Value → Prop} (h : SM id x y R) (v : Value) (vs : List Value) : IsS x v → (∃ u, vs = [u] ∧ IsS y u) → Bz c m nw (.builtin id) (v :: vs) R
  | ⟨t, e⟩, ⟨_, e1, u, e2⟩ => by
    subst e e1 e2
    exact fun s hh tk Q C k E => h _ _ _ _ _ t u fun r tk' hr => k r hh tk' C hr
noncomputable def GMs (name : Str) (id : String) (pl : Sem Bool) : Prop := ∀ (w : World) (A : Around) (s : Shared) (Q : Value × List Value → Shared → Prop) (E : Value → Shared → Prop) (x : Str) (t : Tok), Q (.builtin id, [.str x t]) s → wpAny (model PR w) A (getMethod (.str x t) name pl) Q E s
theorem Ev.smeth {name : Str} {id : String} {pl : Sem Bool} {x y : Str} {R : Value → Prop} (g : GMs name id pl) (h : SM id x y R) (ho : Ev c env m nw o (IsS x)) (ha : Ev c env m nw a (IsS y))
    (he : eval (.Call (.Attribute o name ap) [a] [] pos) env = (do
      let ov ← eval o env
      standAt ap.atName
      let (f, first) ← holding [ov] (getMethod ov name pl)
      callWith pos f first (backTo pos (starEach [a] env)) [])) (hs : starEach [a] env = (false, eval a env) :: starEach [] env) : Ev c env m nw (.Call (.Attribute o name ap) [a] [] pos) R :=
  Ev.meth (fun _ _ _ _ _ q1z q => by obtain ⟨t, e⟩ := q1z; subst e; exact g _ _ _ _ _ _ t q) (fun v vs => h.bz v vs) ho (.one ha hs) he hs rfl
theorem g_startswith {pl : Sem Bool} : GMs (Str.ofString "startswith") "str.startswith" pl := by
  intro w A s Q E x t q
  with_reducible exact GM.startswith q
theorem g_endswith {pl : Sem Bool} : GMs (Str.ofString "endswith") "str.endswith" pl := by
  intro w A s Q E x t q
  with_reducible exact GM.endswith q
theorem g_rfind {pl : Sem Bool} : GMs (Str.ofString "rfind") "str.rfind" pl := by
  intro w A s Q E x t q
  with_reducible exact GM.rfind q
theorem g_find {pl : Sem Bool} : GMs (Str.ofString "find") "str.find" pl := by
  intro w A s Q E x t q
  with_reducible exact GM.find q
theorem g_rstrip {pl : Sem Bool} : GMs (Str.ofString "rstrip") "str.rstrip" pl := by
  intro w A s Q E x t q
  with_reducible exact GM.rstrip q
theorem s_startswith {x y : Str} : SM "str.startswith" x y (· = .bool (PySem.Txt.startswith x y)) := fun _ _ s _ _ _ _ h => SC.startswith (h (.bool (PySem.Txt.startswith x y)) s.toks (Eq.refl _))
theorem s_endswith {x y : Str} : SM "str.endswith" x y (· = .bool (PySem.Txt.endswith x y)) := fun _ _ s _ _ _ _ h => SC.endswith (h (.bool (PySem.Txt.endswith x y)) s.toks (Eq.refl _))
theorem s_rfind {x y : Str} : SM "str.rfind" x y (IsI (PySem.Txt.rfind x y)) := fun _ _ s _ _ _ _ h => SC.rfind (h (.int (PySem.Txt.rfind x y) s.toks) (s.toks + 1) ⟨s.toks, rfl⟩)
theorem s_find {x y : Str} : SM "str.find" x y (IsI (PySem.Txt.find x y)) := fun _ _ _ _ _ _ _ h => SC.find (h _ _ ⟨_, rfl⟩)
theorem s_rstrip {x y : Str} (hz : x.length ≤ sizeLine) : SM "str.rstrip" x y (IsS (PySem.Txt.rstripChars x y)) := fun _ _ _ _ _ _ _ h => SC.rstripChars (fun t k => h _ _ ⟨t, rfl⟩) hz
theorem Ev.pre {x : Str} {j : Int} {sp : Pos} (hz : x.length ≤ sizeLine) (ho : Ev c env m nw o (IsS x)) (ha : Ev c env m nw a (IsI j))
    (hs : ∀ t l, subscripted (.Slice none (some a) none sp) false (.str x t) (.ref l) = operate [.ref l, .str x t] (getItem (.str x t) (.ref l)))
    (ht : ∀ t r, letTemporaryGo o (.str x t) r = pure ()) : Ev c env m nw (.Subscript o (.Slice none (some a) none sp) pos) (IsS (PySem.Txt.slice x none (some j))) := fun s h tk Q C k E =>
  Subscript_ (ho s h tk _ C (fun _ h1 tk1 C1 q2z => by
    obtain ⟨t, e⟩ := q2z
    subst e
    exact wpAny_Slice (evalPart_none_step (evalPart_some_step (ha s h1 tk1 _ C1 (fun _ h2 tk2 C2 q3z => by obtain ⟨u, e⟩ := q3z; subst e; exact evalPart_none_step (slice_strN_ns_len (s := { s with heap := h2, toks := tk2 }) C2.F C2.N (fun h' t' tk' F' N' _ => k _ h' tk' ⟨F', N'⟩ ⟨t', rfl⟩) (hs t _) (ht t) hz)) E)))) E)
theorem Ev.post {x : Str} {j : Int} {sp : Pos} (hz : x.length ≤ sizeLine) (ho : Ev c env m nw o (IsS x)) (ha : Ev c env m nw a (IsI j))
    (hs : ∀ t l, subscripted (.Slice (some a) none none sp) false (.str x t) (.ref l) = operate [.ref l, .str x t] (getItem (.str x t) (.ref l)))
    (ht : ∀ t r, letTemporaryGo o (.str x t) r = pure ()) : Ev c env m nw (.Subscript o (.Slice (some a) none none sp) pos) (IsS (PySem.Txt.slice x (some j) none)) := fun s h tk Q C k E =>
  Subscript_ (ho s h tk _ C (fun _ h1 tk1 C1 q4z => by
    obtain ⟨t, e⟩ := q4z
    subst e
    exact wpAny_Slice (evalPart_some_step (ha s h1 tk1 _ C1 (fun _ h2 tk2 C2 q5z => by obtain ⟨u, e⟩ := q5z; subst e; exact evalPart_none_step (evalPart_none_step (slice_strN_sn_len (s := { s with heap := h2, toks := tk2 }) C2.F C2.N (fun h' t' tk' F' N' _ => k _ h' tk' ⟨F', N'⟩ ⟨t', rfl⟩) (hs t _) (ht t) hz))) E))) E)
end
end Mine

namespace Mine
section
variable {c : Cx} {env : Env} {m : Str → Option Value} {nw : List (Addr × Obj)} {pos p ap pf : Pos} {kk k : Nat} {e f o a b : Expr} {es : List Expr}
theorem Cur.drop {q : Addr × Obj} {h : Heap} (C : Cur c m (q :: nw) h) : Cur c m nw h := ⟨C.F, drop1 C.N⟩
theorem Cur.sub {nw' : List (Addr × Obj)} {h : Heap} (C : Cur c m nw h) (hs : ∀ p ∈ nw', p ∈ nw) : Cur c m nw' h := ⟨C.F, fun p hp => C.N p (hs p hp)⟩
theorem Ok.le {k' : Nat} (O : Ok c k) (h : k' ≤ k) : Ok c k' := ⟨O.X, O.T, O.B, O.hh, Nat.lt_of_le_of_lt (Nat.add_le_add_left h _) O.hd, Nat.lt_of_le_of_lt (Nat.add_le_add_left (Nat.mul_le_mul_left _ h) _) O.hu⟩
theorem EvN.of {P : Value → Prop} (h : Ev c env m nw e P) : EvN c env m nw e (fun v tl => P v ∧ tl = []) := fun s hh tk Q C k => h s hh tk Q C fun v h' tk' C' p => k v [] h' tk' C' no_ord ⟨p, rfl⟩
theorem EvN.mono {P P' : Value → List (Addr × Obj) → Prop} (h : EvN c env m nw e P) (hp : ∀ v tl, P v tl → P' v tl) : EvN c env m nw e P' := fun s hh tk Q C k => h s hh tk Q C fun v tl h' tk' C' o q => k v tl h' tk' C' o (hp v tl q)
theorem Ev.cell {x : Str} {v : Value} {P : Value → Prop} {ac : Addr} {oc : Obj} (hc : env.cells.lookup x = some ac) (hm : (ac, oc) ∈ nw) (hd : oc.data = .cell (some v)) (hp : P v) (hk : env.scope.kind = .function) (hx : env.kindOf x = some .cell) (hb : (x == ("__debug__" : Str)) = false) :
    Ev c env m nw (.Name x pos) P := fun _ _ _ _ C k _ => wpAny_Name (wpAny_loadName_cell hk hx hc ⟨oc, C.N.get hm, hd⟩ (k _ _ _ C hp)) hb
theorem Ev.own {x : Str} {v : Value} {P : Value → Prop} {ac : Addr} {oc : Obj} {m₂ : Str → Option Value} (hL : env.locals = ac) (hm : (ac, oc) ∈ nw) (hC : LCg.NsObj oc m₂) (hv : m₂ x = some v) (hp : P v) (hk : env.scope.kind = .function) (hl : env.kindOf x = some .local) (hd : (x == ("__debug__" : Str)) = false) :
    Ev c env m nw (.Name x pos) P := fun _ _ _ _ C k _ => wpAny_Name (wpAny_loadName_local hk hl (hL ▸ LCg.NsObj.ns hC (C.N _ hm).1) hv (k _ _ _ C hp)) hd
noncomputable def TvB (c : Cx) (env : Env) (m : Str → Option Value) (nw : List (Addr × Obj)) (op : BoolOp) (pos : Pos) (es : List Expr) (b : Bool) : Prop :=
  ∀ whole s h tk (Q : Bool → Shared → Prop), Cur c m nw h → (∀ h' tk', Cur c m nw h' → Q b { s with heap := h', toks := tk' }) → Wp c (isTrue (.BoolOp op es pos) env whole) Q s h tk
theorem Tv.parts {op : BoolOp} {r : Bool} (h : TvB c env m nw op pos es r) : Tv c env m nw (.BoolOp op es pos) r := h _
theorem TvB.and_nil : TvB c env m nw .And pos [] true := fun _ _ _ _ _ C k _ => isTrue_and_nil (k _ _ C)
theorem TvB.or_nil : TvB c env m nw .Or pos [] false := fun _ _ _ _ _ C k _ => isTrue_or_nil (k _ _ C)
theorem TvB.and {b1 b2 : Bool} (h : Tv c env m nw e b1) (hs : b1 = true → TvB c env m nw .And pos es b2) : TvB c env m nw .And pos (e :: es) (b1 && b2) := fun _ s hh tk Q C k E =>
  isTrue_and (h s hh tk _ C (fun h1 tk1 C1 => by
    cases b1 with
    | true => exact hs rfl _ s h1 tk1 Q C1 k E
    | false => exact k h1 tk1 C1) E)
theorem TvB.or {b1 b2 : Bool} (h : Tv c env m nw e b1) (hs : b1 = false → TvB c env m nw .Or pos es b2) : TvB c env m nw .Or pos (e :: es) (b1 || b2) := fun _ s hh tk Q C k E =>
  isTrue_or (h s hh tk _ C (fun h1 tk1 C1 => by
    cases b1 with
    | false => exact hs rfl _ s h1 tk1 Q C1 k E
    | true => exact k h1 tk1 C1) E)
noncomputable def Gd (x : Str) (a : Addr) : Prop := ∀ w : World, nsIn (hd0183.heap_39 w.params) mainGlobals x = some (some (.ref a)) ∧ keepIn (hd0183.heap_39 w.params) (.ref a) = true
noncomputable def Gb (x : Str) (v : Value) : Prop := (∀ w : World, nsIn (hd0183.heap_39 w.params) mainGlobals x = some none) ∧ bootBuiltins x = some v ∧ x ≠ "__name__"
theorem EvN.def {x : Str} {fa : Addr} {Ps : List Value → Prop} {R : Value → List (Addr × Obj) → Prop} (O : Ok c k) (g : Gd x fa) (ha : Evs c env m nw (e :: es) Ps) (D : ∀ vs, Ps vs → Dz k fa vs nw R)
    (hk : env.scope.kind = .function) (hx : env.kindOf x = some .globalImplicit) (hg : env.globals = mainGlobals) (hd : (x == ("__debug__" : Str)) = false)
    (he : eval (.Call (.Name x pf) (e :: es) [] pos) env = (do callWith pos (← eval (.Name x pf) env) [] (backTo pos (starEach (e :: es) env)) (backToKw pos (keywordEach [] env)))) (hs : starEach (e :: es) env = (false, eval e env) :: starEach es env) (hp : (backTo pos (starEach es env)).any (·.1) = false) :
    EvN c env m nw (.Call (.Name x pf) (e :: es) [] pos) R := EvN.call O (.glob O (g c.w).1 hk hx hg hd) (g c.w).2 ha D he hs hp
theorem Ev.bi {x : Str} {id : String} {Ps : List Value → Prop} {R : Value → Prop} (O : Ok c k) (g : Gb x (.builtin id)) (bz : ∀ vs, Ps vs → Bz c m nw (.builtin id) vs R) (ha : Evs c env m nw (e :: es) Ps)
    (hk : env.scope.kind = .function) (hx : env.kindOf x = some .globalImplicit) (hg : env.globals = mainGlobals) (hb : env.builtins = builtinsNs) (hd : (x == ("__debug__" : Str)) = false)
    (he : eval (.Call (.Name x pf) (e :: es) [] pos) env = (do callWith pos (← eval (.Name x pf) env) [] (backTo pos (starEach (e :: es) env)) (backToKw pos (keywordEach [] env)))) (hs : starEach (e :: es) env = (false, eval e env) :: starEach es env) (hp : (backTo pos (starEach es env)).any (·.1) = false) :
    Ev c env m nw (.Call (.Name x pf) (e :: es) [] pos) R := Ev.fn bz (.built O (g.1 c.w) g.2.1 g.2.2 hk hx hg hb hd) ha he hs hp
theorem Ev.ty {P : Value → Prop} {T : String} (O : Ok c k) (g : Gb (Str.ofString "type") (.type "type")) (hT : (Value.type T == Value.type "builtin_function_or_method") = false) (ht : ∀ s v, P v → Shared.TypeIs s v T) (ha : Ev c env m nw a P)
    (hk : env.scope.kind = .function) (hx : env.kindOf (Str.ofString "type") = some .globalImplicit) (hg : env.globals = mainGlobals) (hb : env.builtins = builtinsNs)
    (he : eval (.Call (.Name (Str.ofString "type") pf) [a] [] pos) env = (do callWith pos (← eval (.Name (Str.ofString "type") pf) env) [] (backTo pos (starEach [a] env)) (backToKw pos (keywordEach [] env)))) (hs : starEach [a] env = (false, eval a env) :: starEach [] env) :
    Ev c env m nw (.Call (.Name (Str.ofString "type") pf) [a] [] pos) (· = .type T) := fun s h tk Q C kq E =>
  Call_ (Ev.built (pos := pf) O (g.1 c.w) g.2.1 g.2.2 hk hx hg hb (by decide) s h tk _ C (fun v h1 tk1 C1 ev => by
    subst ev
    exact Pv.callWith_type1 (Evs.one ha hs s h1 tk1 pos _ C1 (fun vs h2 tk2 C2 q1z => by obtain ⟨v, e, pv⟩ := q1z; subst e; exact call_type_of (ht _ v pv) hT (kq _ _ _ C2 rfl)) E) hs rfl) E) he
theorem bz_len {x : Str} {t : Tok} (hz : x.length ≤ 16777216) : Bz c m nw (.builtin "len") [.str x t] (IsI x.length) := fun s h tk Q C k E => P.len_str (Int.not_le.mpr (Int.lt_of_le_of_lt (Int.ofNat_le.mpr hz) (by decide))) (k _ h _ C ⟨_, rfl⟩)
theorem Truth.str {x : Str} (hz : x.length ≤ 16777216) : Truth (IsS x) ((x.length : Int) != 0) := fun _ _ _ _ _ _ q2z h => by
  obtain ⟨_, e⟩ := q2z
  subst e
  exact KXt.truthy (b := ((x.length : Int) != 0)) rfl hz h
noncomputable def OpR (op : Operator) (P P' R : Value → Prop) : Prop := ∀ (w : World) (A : Around) (s : Shared) (Q E : Value → Shared → Prop) (u v : Value), P u → P' v → (∀ r tk', R r → Q r { s with toks := tk' }) → wpAny (model PR w) A (binaryOp op u v) Q E s
theorem Ev.binR {op : Operator} {P P' R : Value → Prop} (o : OpR op P P' R) (ha : Ev c env m nw a P) (hb : Ev c env m nw b P') : Ev c env m nw (.BinOp a op b pos) R := fun s h tk Q C k E =>
  wpAny_BinOp (ha s h tk _ C (fun _ h1 tk1 C1 p1 => hb s h1 tk1 _ C1 (fun _ h2 tk2 C2 p2 => o _ _ _ _ _ _ _ p1 p2 fun r tk' hr => k r h2 tk' C2 hr) E) E)
theorem op_adds {x y : Str} (hz : x.length + y.length ≤ sizeLine) : OpR .Add (IsS x) (IsS y) (IsS (x ++ y)) := fun _ _ _ _ _ _ _ q3z q4z h => by
  obtain ⟨_, e⟩ := q3z
  obtain ⟨_, e'⟩ := q4z
  subst e e'
  exact PyProof.Rows.add_str (fun t' tk => h _ _ ⟨_, rfl⟩) hz
theorem op_muls {x : Str} {n : Nat} {i : Int} (hx : x.length = n) (hn : n ≤ 16) (h0 : -2 ^ 63 ≤ i) (h1 : i ≤ 1048576) : OpR .Mult (IsS x) (IsI i) (IsS (PySem.Txt.mul x i)) := fun _ _ _ _ _ _ _ q5z q6z h => by
  obtain ⟨_, e⟩ := q5z
  obtain ⟨_, e'⟩ := q6z
  subst e e'
  exact W.KXi.mul hx hn h0 h1 fun t' k _ _ => h _ _ ⟨_, rfl⟩
theorem iop_adds {x y : Str} (hz : x.length + y.length ≤ sizeLine) : IOp .Add (IsS x) (IsS y) (IsS (x ++ y)) := fun _ _ _ _ _ _ _ q7z q8z h => by
  obtain ⟨_, e⟩ := q7z
  obtain ⟨_, e'⟩ := q8z
  subst e e'
  exact SBL.iadd (fun t' tk _ => h _ _ ⟨_, rfl⟩) hz
theorem cmp_nes {x y : Str} : Cmp .NotEq (IsS x) (IsS y) (x != y) := fun _ _ _ _ _ _ _ q9z q10z h => by obtain ⟨_, e⟩ := q9z; obtain ⟨_, e'⟩ := q10z; subst e e'; exact ne_str h
theorem EvN.tuple {Ps : List Value → Prop} (ha : Evs c env m nw es Ps) (hz : ∀ vs, Ps vs → vs.length ≤ sizeLine) : EvN c env m nw (.Tuple es kk pos) (fun v tl => ∃ l vs, v = .ref l ∧ tl = [(l, tupObj vs)] ∧ Ps vs) := fun s h tk Q C kq E =>
  Tuple_ (ha s h tk pos _ C (fun vs h1 tk1 C1 pv => kup_newTuple C1.F C1.N (fun l h' F' N' lt => kq _ [_] h' tk1 ⟨F', N'⟩ (one_ord fun p hp => Nat.ne_of_lt (lt p hp)) ⟨l, vs, rfl, rfl, pv⟩) (hz vs pv)) E)
theorem Ev.isub {tp : Pos} {e1 e2 : Expr} (O : Ok c k) (g : Gb (Str.ofString "issubclass") (.builtin "issubclass")) (ha : Ev c env m nw a (· = .type "str")) (h1 : Ev c env m nw e1 (· = .type "str")) (h2 : Ev c env m nw e2 (fun _ => True))
    (hk : env.scope.kind = .function) (hx : env.kindOf (Str.ofString "issubclass") = some .globalImplicit) (hg : env.globals = mainGlobals) (hb : env.builtins = builtinsNs)
    (he : eval (.Call (.Name (Str.ofString "issubclass") pf) [a, .Tuple [e1, e2] kk tp] [] pos) env = (do callWith pos (← eval (.Name (Str.ofString "issubclass") pf) env) [] (backTo pos (starEach [a, .Tuple [e1, e2] kk tp] env)) (backToKw pos (keywordEach [] env)))) (hs : starEach [a, .Tuple [e1, e2] kk tp] env = (false, eval a env) :: starEach [.Tuple [e1, e2] kk tp] env)
    (hs' : starEach [.Tuple [e1, e2] kk tp] env = (false, eval (.Tuple [e1, e2] kk tp) env) :: starEach [] env) (hs1 : starEach [e1, e2] env = (false, eval e1 env) :: starEach [e2] env) (hs2 : starEach [e2] env = (false, eval e2 env) :: starEach [] env) :
    Ev c env m nw (.Call (.Name (Str.ofString "issubclass") pf) [a, .Tuple [e1, e2] kk tp] [] pos) (· = .bool true) := fun s h tk Q C kq E =>
  Call_ (Ev.built (pos := pf) O (g.1 c.w) g.2.1 g.2.2 hk hx hg hb (by decide) s h tk _ C (fun v h1' tk1 C1 ev => by
    subst ev
    exact callWith_method1 (args_cons (ha s h1' tk1 (fun v s₁ => wpAny _ _ (spliced (backTo pos (starEach [.Tuple [e1, e2] kk tp] env))) (fun vs s₂ => wpAny (model PR c.w) c.A (call (.builtin "issubclass") (v :: vs)) Q E s₂) E s₁) C1 (fun v h2' tk2 C2 ev => args_cons ((EvN.tuple (Evs.two h1 h2 hs1 hs2) (fun vs q11z => by obtain ⟨_, _, e, _⟩ := q11z; subst e; exact (show 2 ≤ sizeLine by decide)) : EvN c env m nw (.Tuple [e1, e2] kk tp) _) s h2' tk2 (fun u s₁ => wpAny _ _ (spliced (backTo pos (starEach [] env))) (fun vs s₂ => wpAny (model PR c.w) c.A (call (.builtin "issubclass") (v :: u :: vs)) Q E s₂) E s₁) C2 (fun u tl h3 tk3 C3 _ q12z => by obtain ⟨l, vs, el, et, v1, v2, e, p1, _⟩ := q12z; exact args_nil (by
      subst ev el et e p1
      exact issubclass_str_tup (C3.N _ (.head _)).1 fun tk' => kq _ h3 tk' C3.drop rfl)) E) hs') E) hs) hs rfl) E) he
section
variable {s : Shared} {h : Heap} {tk : Nat} {Q : Flow → Shared → Prop} {rest body orelse : List Stmt} {x y : Str}
theorem go_ite {b : Bool} (C : Cur c m nw h) (d : Tv c env m nw e b) (k1 : ∀ h' tk', Cur c m nw h' → b = true → Go c env body (Then c env rest Q) s h' tk') (k2 : ∀ h' tk', Cur c m nw h' → b = false → Go c env orelse (Then c env rest Q) s h' tk') : Go c env (.If e body orelse pos :: rest) Q s h tk :=
  go_if C d fun h' tk' C' => by
    cases b with
    | true => exact k1 h' tk' C' rfl
    | false => exact k2 h' tk' C' rfl
theorem go_K {st : Stmt} (K : (Str → Option Value) → List (Addr × Obj) → Prop) (f : ∀ rest R, (∀ h' tk' m' nw', Cur c m' nw' h' → K m' nw' → Go c env rest R s h' tk') → Go c env (st :: rest) R s h tk) (k : ∀ h' tk' m' nw', Cur c m' nw' h' → K m' nw' → Go c env rest Q s h' tk') : Go c env (st :: rest) Q s h tk := f _ _ k
theorem Then.nil (k : Go c env rest Q s h tk) : Go c env [] (Then c env rest Q) s h tk := go_nil k
theorem go_try {hd : ExceptHandler} {hs : List ExceptHandler} (k : Go c env body (Then c env rest Q) s h tk) : Go c env (.Try body (hd :: hs) [] [] pos :: rest) Q s h tk :=
  go_seq fun E => wpAny_Try_except (wpAny_mono (k _) (fun f s' q => by cases f <;> first | exact wpAny_execs_nil (q E) | exact q) fun _ _ z => z)
theorem go_tup2 {px py qp tpos : Pos} {ka kt : Nat} {P P' : Value → Prop} (C : Cur c m nw h) (O : Ok c k) (hxy : x ≠ y) (ha : Ev c env m nw a P) (hb : Ev c env m nw b P')
    (kq : ∀ u v m' h' tk', P u → P' v → Cur c m' nw h' → m' x = some u → m' y = some v → (∀ z w, z ≠ x → z ≠ y → m z = some w → m' z = some w) → Go c env rest Q s h' tk')
    (hL : env.locals = c.L) (hl : env.kindOf x = some .local) (hl' : env.kindOf y = some .local) (hp : (env.scope.kind == .class || (env.scope.kind == .module && env.locals != env.globals)) = false)
    (hs1 : starEach [a, b] env = (false, eval a env) :: starEach [b] env) (hs2 : starEach [b] env = (false, eval b env) :: starEach [] env)
    (h1 : swapsWithSole [.Tuple [.Name x px, .Name y py] kt tpos] (.Tuple [a, b] ka qp) pos.line env = pure false) (h2 : swappedStores [.Tuple [.Name x px, .Name y py] kt tpos] (.Tuple [a, b] ka qp) env = pure (some [x, y])) :
    Go c env (.Assign [.Tuple [.Name x px, .Name y py] kt tpos] (.Tuple [a, b] ka qp) pos :: rest) Q s h tk :=
  go_seq fun E => Assign_Tuple_swapped (EvN.tuple (Evs.two ha hb hs1 hs2) (fun vs q13z => by obtain ⟨_, _, e, _⟩ := q13z; subst e; exact (show 2 ≤ sizeLine by decide)) s h tk _ C (fun w tl h1 tk1 C1 _ q14z => by
    obtain ⟨l, vs, el, et, u, v, e, pu, pv⟩ := q14z
    subst el et e
    refine unpackItemsN_ (s := { s with heap := h1, toks := tk1 }) C1.F C1.N ⟨_, (C1.N _ (.head _)).1, rfl, 0, rfl⟩ O.hh rfl fun h2 F2 N2 => ?_
    exact assignInOrder_cons (bindName_ (store_go (Q := fun _ s' => wpAny (model PR c.w) c.A (assignInOrder [bindName env x] [u]) _ E s') ⟨F2, drop1 N2⟩ hL hl' hp (fun m1 h3 tk3 C3 ey kp => assignInOrder_cons (bindName_ (store_go (Q := fun _ s' => wpAny (model PR c.w) c.A (assignInOrder [] []) _ E s') C3 hL hl hp (fun m2 h4 tk4 C4 ex kp2 => assignInOrder_nil (kq u v m2 h4 tk4 pu pv C4 ex (kp2 _ _ hxy.symm ey) (fun z w n1 n2 e => kp2 z w n1 (kp z w n2 e)) E)) E))) E))) E) h1 h2
end
end
end Mine

namespace Mine
theorem g_isinstance : Gb (Str.ofString "isinstance") (.builtin "isinstance") := ⟨fun _ => by kernel_rfl, rfl, by decide⟩
theorem g_issubclass : Gb (Str.ofString "issubclass") (.builtin "issubclass") := ⟨fun _ => by kernel_rfl, rfl, by decide⟩
theorem g_bytes : Gb (Str.ofString "bytes") (.type "bytes") := ⟨fun _ => by kernel_rfl, rfl, by decide⟩
theorem g_str : Gb (Str.ofString "str") (.type "str") := ⟨fun _ => by kernel_rfl, rfl, by decide⟩
theorem g_type : Gb (Str.ofString "type") (.type "type") := ⟨fun _ => by kernel_rfl, rfl, by decide⟩
theorem g_len : Gb (Str.ofString "len") (.builtin "len") := ⟨fun _ => by kernel_rfl, rfl, by decide⟩
theorem d_fspath : Gd (Str.ofString "fspath") 132 := fun _ => ⟨by kernel_rfl, by kernel_rfl⟩
theorem d_sep : Gd (Str.ofString "_get_sep") 146 := fun _ => ⟨by kernel_rfl, by kernel_rfl⟩
theorem sh1 {x : Str} (h : (((cutHead x).length : Int) != 0 && (cutHead x != PySem.Txt.mul slash (cutHead x).length && true)) = true) : splitHead x = PySem.Txt.rstripChars (cutHead x) slash := by
  simp only [Bool.and_eq_true, bne_iff_ne, and_true] at h
  exact if_pos ⟨h.1, bne_iff_ne.mpr h.2⟩
theorem sh2 {x : Str} (h : (((cutHead x).length : Int) != 0 && (cutHead x != PySem.Txt.mul slash (cutHead x).length && true)) = false) : splitHead x = cutHead x := if_neg fun q => by
  rw [bne_iff_ne.mpr q.1, q.2] at h
  exact Bool.noConfusion h
section
variable {c : Cx} {env : Env} {m : Str → Option Value} {nw : List (Addr × Obj)} {pos p ap pf : Pos} {kk k : Nat} {e f o a b : Expr} {es : List Expr}
theorem Ev.bname {x : Str} {v : Value} (O : Ok c k) (g : Gb x v) (hk : env.scope.kind = .function) (hx : env.kindOf x = some .globalImplicit) (hg : env.globals = mainGlobals) (hb : env.builtins = builtinsNs) (hd : (x == ("__debug__" : Str)) = false) :
    Ev c env m nw (.Name x pos) (· = v) := .built O (g.1 c.w) g.2.1 g.2.2 hk hx hg hb hd
theorem ty_str {s : Shared} {v : Value} {x : Str} : IsS x v → Shared.TypeIs s v "str" := fun q1z => by obtain ⟨_, e⟩ := q1z; exact e ▸ rfl
end
theorem bz_isb {x : Str} {c : Cx} {m : Str → Option Value} {nw : List (Addr × Obj)} (vs : List Value) : (∃ v u, vs = [v, u] ∧ IsS x v ∧ u = .type "bytes") → Bz c m nw (.builtin "isinstance") vs (· = .bool false) := fun q2z => by
  obtain ⟨v, u, e, ⟨t, e1⟩, e2⟩ := q2z
  subst e e1 e2
  exact fun s h tk Q C k E => IsiPair.str_bytes (k _ h _ C rfl)
theorem bz_lens {x : Str} (hz : x.length ≤ 16777216) {c : Cx} {m : Str → Option Value} {nw : List (Addr × Obj)} (vs : List Value) : (∃ v, vs = [v] ∧ IsS x v) → Bz c m nw (.builtin "len") vs (IsI x.length) := fun q3z => by
  obtain ⟨v, e, ⟨t, e1⟩⟩ := q3z
  subst e e1
  exact bz_len hz
theorem z_fspath0 (x : Str) (t : Tok) (nw : List (Addr × Obj)) : Dz 1 132 [.str x t] nw (fun r tl => r = .str x t ∧ tl = []) := by
  have kfill : Mine.trow = Mine.trow ∧ hd0183.heap_39 = hd0183.heap_39 := by k_fill; exact ⟨rfl, rfl⟩
  refine' Mine.enter (binds := [(Str.ofString "path", .str x t)]) ?ka ?kb ?kc ?kd ?ke ?kf ?kg ?kh ?_; (case ka => intro w; k_is); (case kb => intro w; k_is); (case kc => first | exact fun _ _ _ => BindsTo.of_eq rfl | exact fun w s hX => binds_K hX rfl (by k_is) rfl rfl rfl); (case kd => exact locs rfl); (case ke => exact rfl); (case kf => exact rfl); (case kg => exact rfl); (case kh => decide)
  clear kfill
  intro c s h tk m R O C ha hR
  refine go_asg (hL := by rfl) (hl := by rfl) (hp := by rfl) (hs := by rfl) C (.ty (hk := by rfl) (hx := by rfl) (hg := by rfl) (hb := by rfl) (he := by rfl) (hs := by rfl) O g_type (by decide +kernel) (fun s v => ty_str) (.loc (hL := by rfl) (hk := by rfl) (hl := by rfl) (hd := by decide) (ha _ _ rfl) ⟨t, rfl⟩)) fun v m1 h1 tk1 ev C1 hk kp => ?_
  subst ev
  refine go_if (b := true) C1 (.val (he := by rfl) truth_bool (.isub (hk := by rfl) (hx := by rfl) (hg := by rfl) (hb := by rfl) (he := by rfl) (hs := by rfl) (hs' := by rfl) (hs1 := by rfl) (hs2 := by rfl) O g_issubclass (.loc (hL := by rfl) (hk := by rfl) (hl := by rfl) (hd := by decide) hk rfl) (.bname (hk := by rfl) (hx := by rfl) (hg := by rfl) (hb := by rfl) (hd := by decide) O g_str) (.mono (.bname (hk := by rfl) (hx := by rfl) (hg := by rfl) (hb := by rfl) (hd := by decide) O g_bytes) fun _ _ => trivial))) fun h2 tk2 C2 => ?_
  exact go_ret C2 (P := (· = .str x t)) (.loc (hL := by rfl) (hk := by rfl) (hl := by rfl) (hd := by decide) (kp _ _ (by decide) (ha _ _ rfl)) rfl) fun v h3 tk3 hv C3 => hR v [] h3 tk3 _ _ C3 (fun p hp => hp) no_ord ⟨hv, rfl⟩
theorem z_fspath (x : Str) (nw : List (Addr × Obj)) (vs : List Value) (hv : ∃ v, vs = [v] ∧ IsS x v) : Dz 1 132 vs nw (fun r tl => IsS x r ∧ tl = []) := by
  obtain ⟨v, e, t, e1⟩ := hv
  subst e e1
  exact fun c m s h tk Q O C kq => z_fspath0 x t nw c m s h tk Q O C fun r tl h' tk' C' o q4z => by obtain ⟨e, e1⟩ := q4z; exact kq r tl h' tk' C' o ⟨⟨t, e⟩, e1⟩
theorem z_sep (x : Str) (nw : List (Addr × Obj)) (vs : List Value) (hv : ∃ v, vs = [v] ∧ IsS x v) : Dz 1 146 vs nw (fun r tl => IsS slash r ∧ tl = []) := by
  obtain ⟨v, e, t, e1⟩ := hv
  subst e e1
  have kfill : Mine.trow = Mine.trow ∧ hd0183.heap_39 = hd0183.heap_39 := by k_fill; exact ⟨rfl, rfl⟩
  refine' Mine.enter (binds := [(Str.ofString "path", .str x t)]) ?ka ?kb ?kc ?kd ?ke ?kf ?kg ?kh ?_; (case ka => intro w; k_is); (case kb => intro w; k_is); (case kc => first | exact fun _ _ _ => BindsTo.of_eq rfl | exact fun w s hX => binds_K hX rfl (by k_is) rfl rfl rfl); (case kd => exact locs rfl); (case ke => exact rfl); (case kf => exact rfl); (case kg => exact rfl); (case kh => decide)
  clear kfill
  intro c s h tk m R O C ha hR
  refine go_if (b := false) C (.val (he := by rfl) truth_bool (.bi (hk := by rfl) (hx := by rfl) (hg := by rfl) (hb := by rfl) (hd := by decide) (he := by rfl) (hs := by rfl) (hp := by rfl) O g_isinstance bz_isb (.two (hs := by rfl) (hs' := by rfl) (.loc (hL := by rfl) (hk := by rfl) (hl := by rfl) (hd := by decide) (ha _ _ rfl) ⟨t, rfl⟩) (.bname (hk := by rfl) (hx := by rfl) (hg := by rfl) (hb := by rfl) (hd := by decide) O g_bytes)))) fun h1 tk1 C1 => ?_
  exact go_ret C1 .str fun v h2 tk2 hv C2 => hR v [] h2 tk2 _ _ C2 (fun p hp => hp) no_ord ⟨hv, rfl⟩
theorem slen : slash.length = 1 := by decide +kernel
inductive SOut (x : Str) (nw : List (Addr × Obj)) : (Str → Option Value) → List (Addr × Obj) → Prop
  | mk {m v u} (hh : m (Str.ofString "head") = some v) (h1 : IsS (splitHead x) v) (ht : m (Str.ofString "tail") = some u) (h2 : IsS (cutTail x) u) : SOut x nw m nw
theorem cut_len {x : Str} (hx : x.length ≤ 1000) : (cutHead x).length ≤ 1000 := Nat.le_trans (PyProof.Txt.length_slice_le _ _ _) hx
theorem z_split (x : Str) (nw : List (Addr × Obj)) (hx : x.length ≤ 1000) (vs : List Value) (hv : ∃ v, vs = [v] ∧ IsS x v) : Dz 2 160 vs nw (fun r tl => ∃ a vs, r = .ref a ∧ tl = [(a, tupObj vs)] ∧ ∃ v u, vs = [v, u] ∧ IsS (splitHead x) v ∧ IsS (cutTail x) u) := by
  obtain ⟨v, e, t, e1⟩ := hv
  subst e e1
  have kfill : Mine.trow = Mine.trow ∧ hd0183.heap_39 = hd0183.heap_39 := by k_fill; exact ⟨rfl, rfl⟩
  refine' Mine.enter (binds := [(Str.ofString "p", .str x t)]) ?ka ?kb ?kc ?kd ?ke ?kf ?kg ?kh ?_; (case ka => intro w; k_is); (case kb => intro w; k_is); (case kc => first | exact fun _ _ _ => BindsTo.of_eq rfl | exact fun w s hX => binds_K hX rfl (by k_is) rfl rfl rfl); (case kd => exact locs rfl); (case ke => exact rfl); (case kf => exact rfl); (case kg => exact rfl); (case kh => decide)
  clear kfill
  intro c s h tk m R O C ha hR
  refine go_asg (hL := by rfl) (hl := by rfl) (hp := by rfl) (hs := by rfl) C (.of (.def (hk := by rfl) (hx := by rfl) (hg := by rfl) (hd := by decide) (he := by rfl) (hs := by rfl) (hp := by rfl) O d_fspath (.one (hs := by rfl) (.loc (hL := by rfl) (hk := by rfl) (hl := by rfl) (hd := by decide) (ha _ _ rfl) ⟨t, rfl⟩)) (z_fspath x nw))) fun v m1 h1 tk1 hp C1 ep _ => ?_
  refine go_asg (hL := by rfl) (hl := by rfl) (hp := by rfl) (hs := by rfl) C1 (.of (.def (hk := by rfl) (hx := by rfl) (hg := by rfl) (hd := by decide) (he := by rfl) (hs := by rfl) (hp := by rfl) O d_sep (.one (hs := by rfl) (.loc (hL := by rfl) (hk := by rfl) (hl := by rfl) (hd := by decide) ep hp)) (z_sep x nw))) fun v2 m2 h2 tk2 hs C2 es kp => ?_
  have ep := kp _ _ (by decide) ep
  refine go_asg (hL := by rfl) (hl := by rfl) (hp := by rfl) (hs := by rfl) C2 (.bin op_add (.smeth (he := by rfl) (hs := by rfl) g_rfind s_rfind (.loc (hL := by rfl) (hk := by rfl) (hl := by rfl) (hd := by decide) ep hp) (.loc (hL := by rfl) (hk := by rfl) (hl := by rfl) (hd := by decide) es hs)) .int) fun v3 m3 h3 tk3 hi C3 ei kp => ?_
  have ep := kp _ _ (by decide) ep
  have es := kp _ _ (by decide) es
  refine go_tup2 (hL := by rfl) (hl := by rfl) (hl' := by rfl) (hp := by rfl) (hs1 := by rfl) (hs2 := by rfl) (h1 := by with_unfolding_all rfl) (h2 := by with_unfolding_all rfl) C3 O (by decide) (.pre (hs := by intro _ _; with_unfolding_all rfl) (ht := by intro _ _; with_unfolding_all rfl) (Nat.le_trans hx (by decide)) (.loc (hL := by rfl) (hk := by rfl) (hl := by rfl) (hd := by decide) ep hp) (.loc (hL := by rfl) (hk := by rfl) (hl := by rfl) (hd := by decide) ei hi)) (.post (hs := by intro _ _; with_unfolding_all rfl) (ht := by intro _ _; with_unfolding_all rfl) (Nat.le_trans hx (by decide)) (.loc (hL := by rfl) (hk := by rfl) (hl := by rfl) (hd := by decide) ep hp) (.loc (hL := by rfl) (hk := by rfl) (hl := by rfl) (hd := by decide) ei hi)) fun v4 v5 m4 h4 tk4 hh ht C4 eh et kp => ?_
  have es := kp _ _ (by decide) (by decide) es
  have hl := cut_len hx
  refine go_K (SOut x nw) (fun rest R k => ?_) fun h5 tk5 m5 nw5 C5 K => ?_
  · refine go_ite C4 (.parts (.and (.val (he := by rfl) (.str (Nat.le_trans hl (by decide))) (.loc (hL := by rfl) (hk := by rfl) (hl := by rfl) (hd := by decide) eh hh)) fun _ => .and (.cmp (hm := by with_unfolding_all rfl) cmp_nes (.loc (hL := by rfl) (hk := by rfl) (hl := by rfl) (hd := by decide) eh hh) (.binR (op_muls slen (by decide) (Int.le_trans (by decide) (Int.natCast_nonneg _)) (Int.ofNat_le.mpr (Nat.le_trans hl (by decide)))) (.loc (hL := by rfl) (hk := by rfl) (hl := by rfl) (hd := by decide) es hs) (.bi (hk := by rfl) (hx := by rfl) (hg := by rfl) (hb := by rfl) (hd := by decide) (he := by rfl) (hs := by rfl) (hp := by rfl) O g_len (bz_lens (Nat.le_trans hl (by decide))) (.one (hs := by rfl) (.loc (hL := by rfl) (hk := by rfl) (hl := by rfl) (hd := by decide) eh hh))))) fun _ => .and_nil)) (fun h5 tk5 C5 hb => ?_) fun h5 tk5 C5 hb => ?_
    · refine go_asg (hL := by rfl) (hl := by rfl) (hp := by rfl) (hs := by rfl) C5 (.smeth (he := by rfl) (hs := by rfl) g_rstrip (s_rstrip (Nat.le_trans hl (by decide))) (.loc (hL := by rfl) (hk := by rfl) (hl := by rfl) (hd := by decide) eh hh) (.loc (hL := by rfl) (hk := by rfl) (hl := by rfl) (hd := by decide) es hs)) fun v6 m6 h6 tk6 h6' C6 e6 kp => go_nil (k _ _ _ _ C6 (.mk e6 ((sh1 hb).symm ▸ h6') (kp _ _ (by decide) et) ht))
    · exact go_nil (k _ _ _ _ C5 (.mk eh ((sh2 hb).symm ▸ hh) et ht))
  · cases K with
    | mk eh hh et ht =>
    exact go_retN C5 (.tuple (.two (hs := by rfl) (hs' := by rfl) (.loc (hL := by rfl) (hk := by rfl) (hl := by rfl) (hd := by decide) eh hh) (.loc (hL := by rfl) (hk := by rfl) (hl := by rfl) (hd := by decide) et ht)) fun vs q5z => by obtain ⟨_, _, e, _⟩ := q5z; subst e; exact (show 2 ≤ sizeLine by decide)) fun v tl h6 tk6 hv o C6 => hR v tl h6 tk6 _ _ C6 (fun p hp => hp) o hv
end Mine

namespace Mine
section
open LCg
noncomputable def Src (c : Cx) (env : Env) (m : Str → Option Value) (nw : List (Addr × Obj)) (it : Expr) (n : Nat) (P : Nat → Value → Prop) (S : List (Addr × Obj) → Prop) : Prop :=
  ∀ (s : Shared) (h : Heap) (tk : Nat) (Q : Value → Shared → Prop), Cur c m nw h → (∀ (I : Addr) (h' : Heap) (tk' : Nat), Begun PR c.w c.A c.h₀ c.L m nw n P S I { s with heap := h', toks := tk' } → Q (.ref I) { s with heap := h', toks := tk' }) →
    ∀ E, wpAny (model PR c.w) c.A (eval it env) (fun x s₁ => wpAny (model PR c.w) c.A (pyIter x) Q E s₁) E { s with heap := h, toks := tk }
section
variable {c : Cx} {env : Env} {m : Str → Option Value} {nw : List (Addr × Obj)} {pos p ap pf : Pos} {kk k : Nat} {e f o a b : Expr} {es : List Expr}
noncomputable def LAt (vs : List Value) (nw : List (Addr × Obj)) (l : Addr) : Prop := ∃ nn, (l, W.listOf vs.toArray nn) ∈ nw
theorem src_S {l : Addr} {vs : List Value} {h₀ : Heap} : LAt vs nw l → SrcAt h₀ l vs.toArray nw := fun q1z => by obtain ⟨_, hm⟩ := q1z; exact Or.inr ⟨_, hm, rfl, _, rfl⟩
theorem src_list {l : Addr} {vs : List Value} (O : Ok c k) (hm : LAt vs nw l) (ha : Ev c env m nw a (· = .ref l)) : Src c env m nw a vs.length (fun i v => vs[i]? = some v) (SrcAt c.h₀ l vs.toArray) := fun s h tk Q C kq E =>
  ha s h tk _ C (fun v h1 tk1 C1 e => by
    subst e
    exact iter_list (its := vs.toArray) (s := { s with heap := h1, toks := tk1 }) O.hh C1.F C1.N (src_S hm) fun I h' B => kq I h' _ (by simpa using B)) E
theorem src_tup {l : Addr} {vs : List Value} (O : Ok c k) (hm : (l, tupObj vs) ∈ nw) (ha : Ev c env m nw a (· = .ref l)) : Src c env m nw a vs.length (fun i v => vs[i]? = some v) (TupAt l vs.toArray) := fun s h tk Q C kq E =>
  ha s h tk _ C (fun v h1 tk1 C1 e => by
    subst e
    exact iter_tup (its := vs.toArray) (s := { s with heap := h1, toks := tk1 }) O.hh C1.F C1.N ⟨_, hm⟩ fun I h' B => kq I h' _ (by simpa using B)) E
theorem src_bytes {b : Array UInt8} (O : Ok c k) (ha : Ev c env m nw a (fun v => ∃ t, v = .bytes b t)) : Src c env m nw a b.size (fun i v => ∃ x u, b[i]? = some x ∧ v = .int (x.toNat : Int) u) (fun _ => True) := fun s h tk Q C kq E =>
  ha s h tk _ C (fun v h1 tk1 C1 q2z => by
    obtain ⟨t, e⟩ := q2z
    subst e
    exact iter_bytes (s := { s with heap := h1, toks := tk1 }) O.hh C1.F C1.N fun I h' B => kq I h' _ B) E
theorem src_range {x : Int} {n : Nat} (O : Ok c k) (g : Gb (Str.ofString "range") (.type "range")) (ha : Ev c env m nw a (IsI x)) (hsm : Builtin.Range.small 0 x 1 = true) (hn : Builtin.Range.rangeSize 0 x 1 = ((n : Nat) : Int))
    (hk : env.scope.kind = .function) (hx : env.kindOf (Str.ofString "range") = some .globalImplicit) (hg : env.globals = mainGlobals) (hb : env.builtins = builtinsNs)
    (he : eval (.Call (.Name (Str.ofString "range") pf) [a] [] pos) env = (do callWith pos (← eval (.Name (Str.ofString "range") pf) env) [] (backTo pos (starEach [a] env)) (backToKw pos (keywordEach [] env)))) (hs : starEach [a] env = (false, eval a env) :: starEach [] env) :
    Src c env m nw (.Call (.Name (Str.ofString "range") pf) [a] [] pos) n (fun i => IsI (0 + (i : Int) * 1)) (fun _ => True) := fun s h tk Q C kq E =>
  Call_ (Ev.built (pos := pf) O (g.1 c.w) g.2.1 g.2.2 hk hx hg hb (by decide) s h tk _ C (fun v h1 tk1 C1 ev => by
    subst ev
    exact Pv.callWith_type1 (Evs.one ha hs s h1 tk1 pos _ C1 (fun vs h2 tk2 C2 q3z => by
      obtain ⟨v, e, t, e1⟩ := q3z
      subst e e1
      exact range1_rows (s := { s with heap := h2, toks := tk2 }) C2.F C2.N fun h3 tk3 _ _ _ hr F3 N3 _ => iter_range (s := { s with heap := h3, toks := tk3 }) O.hh F3 N3 hr hsm hn fun I h' B => kq I h' _ B) E) hs rfl) E) he
theorem src_range2 {x : Int} {n : Nat} {e0 e2 : Expr} (O : Ok c k) (g : Gb (Str.ofString "range") (.type "range")) (h0 : Ev c env m nw e0 (IsI 0)) (ha : Ev c env m nw a (IsI x)) (h2 : Ev c env m nw e2 (IsI 2)) (hd : Builtin.divisionGoesByPylong (x - 0) 2 = false) (hsm : Builtin.Range.small 0 x 2 = true) (hn : Builtin.Range.rangeSize 0 x 2 = ((n : Nat) : Int))
    (hk : env.scope.kind = .function) (hx : env.kindOf (Str.ofString "range") = some .globalImplicit) (hg : env.globals = mainGlobals) (hb : env.builtins = builtinsNs)
    (he : eval (.Call (.Name (Str.ofString "range") pf) [e0, a, e2] [] pos) env = (do callWith pos (← eval (.Name (Str.ofString "range") pf) env) [] (backTo pos (starEach [e0, a, e2] env)) (backToKw pos (keywordEach [] env)))) (hs : starEach [e0, a, e2] env = (false, eval e0 env) :: starEach [a, e2] env) (hs1 : starEach [a, e2] env = (false, eval a env) :: starEach [e2] env) (hs2 : starEach [e2] env = (false, eval e2 env) :: starEach [] env) (hp : (backTo pos (starEach [a, e2] env)).any (·.1) = false) :
    Src c env m nw (.Call (.Name (Str.ofString "range") pf) [e0, a, e2] [] pos) n (fun i => IsI (0 + (i : Int) * 2)) (fun _ => True) := fun s h tk Q C kq E =>
  Call_ (Ev.built (pos := pf) O (g.1 c.w) g.2.1 g.2.2 hk hx hg hb (by decide) s h tk _ C (fun v h1 tk1 C1 ev => by
    subst ev
    exact Pv.callWith_type1 (Evs.cons h0 (.two ha h2 hs1 hs2) hs s h1 tk1 pos _ C1 (fun vs h2 tk2 C2 q4z => by
      obtain ⟨v, r, e, ⟨t, e1⟩, v2, v3, e2, ⟨t2, e3⟩, t3, e4⟩ := q4z
      subst e e1 e2 e3 e4
      exact range3_rows (s := { s with heap := h2, toks := tk2 }) C2.F C2.N (by decide) (fun h3 tk3 _ _ _ hr F3 N3 _ => iter_range (s := { s with heap := h3, toks := tk3 }) O.hh F3 N3 hr hsm hn fun I h' B => kq I h' _ B) (Or.inl hd)) E) hs hp) E) he
theorem ix_z {i : Nat} {v : Value} (h : IsI (0 + (i : Int) * 1) v) : IsI (i : Int) v := by
  rw [Int.zero_add, Int.mul_one] at h
  exact h
theorem off1_mem {D : Addr} : ∀ {l : List (Addr × Obj)}, Off1 D l → ∀ p ∈ l, @Ne Nat p.1 D
  | [], _, _, h => nomatch h
  | _ :: _, h, p, hp => by cases hp with | head => exact h.1 | tail _ hp => exact off1_mem h.2 p hp
theorem off3_app {I C D : Addr} {l : List (Addr × Obj)} (h : Off3 I C D l) : ∀ {tl : List (Addr × Obj)}, (∀ p ∈ tl, @Ne Nat I p.1 ∧ @Ne Nat C p.1 ∧ @Ne Nat D p.1) → Off3 I C D (tl ++ l)
  | [], _ => h
  | p :: _, ht => ⟨⟨Ne.symm (ht p (.head _)).1, Ne.symm (ht p (.head _)).2.1, Ne.symm (ht p (.head _)).2.2⟩, off3_app h fun q hq => ht q (.tail _ hq)⟩
structure Turns (c : Cx) (env : Env) (m : Str → Option Value) (nw : List (Addr × Obj)) (elt : Expr) (x : Str) (scope : Scope) (cl : List (Str × Addr)) (n : Nat) (P : Nat → Value → Prop) (J : Nat → List Value → List (Addr × Obj) → Prop) : Prop where
  h0 : J 0 [] []
  turn : ∀ i v ys tl I oI C oC D m₂, i < n → P i v → J i ys tl → NsObj oC m₂ → m₂ x = some v → EvN c (compEnvC scope cl C env) m ((I, oI) :: (C, oC) :: (D, lst ys) :: (tl ++ nw)) elt (fun y tl' => J (i + 1) (ys ++ [y]) (tl' ++ tl))
section
variable {elt iter : Expr} {x y : Str} {px py spos : Pos} {scope : Scope} {cl : List (Str × Addr)} {n : Nat} {P : Nat → Value → Prop} {S : List (Addr × Obj) → Prop} {J : Nat → List Value → List (Addr × Obj) → Prop}
noncomputable def Ord (nw tl : List (Addr × Obj)) : Prop := ∀ q ∈ nw, ∀ p ∈ tl, @Ne Nat q.1 p.1
theorem turns_R {Fin : List Value → List (Addr × Obj) → Prop} {s : Shared} {hh : Heap} {tt : Nat} {I : Addr} (T : Turns c env m nw elt x scope cl n P J) (hS : ∀ tl, S (tl ++ nw)) (hz : n ≤ sizeLine) (hcell : ∀ y ∈ scope.names, y.2 ≠ .cell) (hkind : scope.kind = .function) (hx : scope.names.lookup x = some .local)
    (B : Begun PR c.w c.A c.h₀ c.L m nw n P S I { s with heap := hh, toks := tt }) (fin : ∀ ys tl, J n ys tl → Ord nw tl → Fin ys (tl ++ nw)) : CompR PR c.w c.A c.h₀ c.L m env (.ListComp elt [⟨.Name x px, iter, [], 0⟩] scope pos) scope cl Fin (.ref I) { s with heap := hh, toks := tt } :=
  comp_grow hcell hkind hx hz B (fun i ys nw' => ∃ tl, nw' = tl ++ nw ∧ J i ys tl ∧ Ord nw tl) (fun _ _ _ q5z => by obtain ⟨tl, e, _⟩ := q5z; exact e ▸ hS tl) ⟨[], rfl, T.h0, no_ord⟩
    (fun i v ys nw' I oI C oC D m₂ h tk R hi hv hJ hC hx F N off ne hR => by
      obtain ⟨tl, e, hJ, ho⟩ := hJ
      subst e
      refine T.turn i v ys tl I oI C oC D m₂ hi hv hJ hC hx s h tk R ⟨F, N⟩ (fun y tl' h' tk' C' o' hJ' => hR y h' tk' (tl' ++ (tl ++ nw)) C'.F (fun p hp => C'.N p ?_) (off3_app off fun p hp => ⟨o' _ (.head _) p hp, o' _ (.tail _ (.head _)) p hp, o' _ (.tail _ (.tail _ (.head _))) p hp⟩) ⟨tl' ++ tl, (List.append_assoc ..).symm, hJ', fun q hq p hp => ?_⟩) _
      · refine List.mem_append.mpr ?_
        cases hp with
        | head => exact Or.inr (.head _)
        | tail _ hp => cases hp with
          | head => exact Or.inr (.tail _ (.head _))
          | tail _ hp => cases hp with
            | head => exact Or.inr (.tail _ (.tail _ (.head _)))
            | tail _ hp => exact (List.mem_append.mp hp).imp id fun hp => .tail _ (.tail _ (.tail _ hp))
      · cases List.mem_append.mp hp with
        | inl hp => exact o' q (.tail _ (.tail _ (.tail _ (List.mem_append_right _ hq)))) p hp
        | inr hp => exact ho q hq p hp)
    fun ys _ q6z => by obtain ⟨tl, e, hJ, ho⟩ := q6z; exact e ▸ fin ys tl hJ ho
theorem ord_cons {D : Addr} {oD : Obj} {tl : List (Addr × Obj)} (o1 : Off1 D (tl ++ nw)) (ho : Ord nw tl) : Ord nw ((D, oD) :: tl) := fun q hq p hp => by
  cases hp with
  | head => exact off1_mem o1 q (List.mem_append_right _ hq)
  | tail _ hp => exact ho q hq p hp
noncomputable def CompV (n : Nat) (J : Nat → List Value → List (Addr × Obj) → Prop) (v : Value) (tl : List (Addr × Obj)) : Prop := ∃ D ys tl', v = .ref D ∧ tl = (D, lst ys) :: tl' ∧ J n ys tl'
theorem EvN.comp (d : Src c env m nw iter n P S) (T : Turns c env m nw elt x scope cl n P J) (hS : ∀ tl, S (tl ++ nw)) (hz : n ≤ sizeLine) (hclos : closureFor scope env = pure cl) (hcell : ∀ y ∈ scope.names, y.2 ≠ .cell) (hkind : scope.kind = .function) (hx : scope.names.lookup x = some .local)
    (hnames : ∀ y ∈ scope.names, y.2 = .local → scope.names.lookup y.1 = some .local) (hs : ∀ x, foldedSetIterable iter env x = pure x) : EvN c env m nw (.ListComp elt [⟨.Name x px, iter, [], 0⟩] scope pos) (CompV n J) := fun s h tk Q C kq E =>
  comp_E hclos hkind hnames (d s h tk (fun it s₂ => CompR PR c.w c.A c.h₀ c.L m env (.ListComp elt [⟨.Name x px, iter, [], 0⟩] scope pos) scope cl (FinE c.h₀ c.L m s₂ Q) it s₂) C (fun I h' tk' B => turns_R T hS hz hcell hkind hx B fun ys tl hJ ho D h2 tk2 F2 N2 o1 => kq (.ref D) ((D, lst ys) :: tl) h2 tk2 ⟨F2, N2⟩ (ord_cons o1 ho) ⟨D, ys, tl, rfl, rfl, hJ⟩) E) hs
theorem go_comp {s : Shared} {h : Heap} {tk : Nat} {Q : Flow → Shared → Prop} {rest : List Stmt} (C : Cur c m nw h) (d : Src c env m nw iter n P S) (T : Turns c env m nw elt x scope cl n P J) (hS : ∀ tl, S (tl ++ nw)) (hz : n ≤ sizeLine)
    (kq : ∀ v tl m' h' tk', CompV n J v tl → Ord nw tl → Cur c m' (tl ++ nw) h' → m' y = some v → (∀ z u, z ≠ y → m z = some u → m' z = some u) → Go c env rest Q s h' tk') (hclos : closureFor scope env = pure cl)
    (hcell : ∀ y ∈ scope.names, y.2 ≠ .cell) (hkind : scope.kind = .function) (hx : scope.names.lookup x = some .local)
    (hnames : ∀ y ∈ scope.names, y.2 = .local → scope.names.lookup y.1 = some .local) (hs : ∀ x, foldedSetIterable iter env x = pure x)
    (hL : env.locals = c.L) (hl : env.kindOf y = some .local) (hp : (env.scope.kind == .class || (env.scope.kind == .module && env.locals != env.globals)) = false)
    (hsw : swapsWith (.ListComp elt [⟨.Name x px, iter, [], 0⟩] scope pos) (some (.Name y py)) spos.line env = pure true) : Go c env (.Assign [.Name y py] (.ListComp elt [⟨.Name x px, iter, [], 0⟩] scope pos) spos :: rest) Q s h tk :=
  go_seq fun E => by
    cases c with | mk w A h₀ L =>
    cases hL
    exact comp_A hsw hclos hkind hnames hl hp (d s h tk (fun it s₂ => CompR PR w A h₀ env.locals m env (.ListComp elt [⟨.Name x px, iter, [], 0⟩] scope pos) scope cl (FinA h₀ env.locals m s₂ y (fun f s' => match f with | .next => wpAny (model PR w) A (execs rest env) Q E s' | f => Q f s')) it s₂) C (fun I h' tk' B => turns_R T hS hz hcell hkind hx B fun ys tl hJ ho D h2 tk2 F2 N2 o1 => kq (.ref D) ((D, lst ys) :: tl) _ h2 tk2 ⟨D, ys, tl, rfl, rfl, hJ⟩ (ord_cons o1 ho) ⟨F2, N2⟩ (if_pos rfl) (fun z u hz e => (if_neg hz).trans e) E) E) hs
theorem Turns.fix {K : Nat → List Value → Prop} (h0 : K 0 []) (turn : ∀ i v ys I oI C oC D m₂, i < n → P i v → K i ys → NsObj oC m₂ → m₂ x = some v → Ev c (compEnvC scope cl C env) m ((I, oI) :: (C, oC) :: (D, lst ys) :: nw) elt (fun y => K (i + 1) (ys ++ [y]))) : Turns c env m nw elt x scope cl n P (fun i ys tl => tl = [] ∧ K i ys) :=
  ⟨⟨rfl, h0⟩, fun i v ys tl I oI C oC D m₂ hi hv q7z hC hx => by
    obtain ⟨e, hK⟩ := q7z
    subst e
    exact (EvN.of (turn i v ys I oI C oC D m₂ hi hv hK hC hx)).mono fun y tl' q8z => by obtain ⟨k', e'⟩ := q8z; exact ⟨by rw [e']; rfl, k'⟩⟩
theorem EvN.fix {P : Value → List (Addr × Obj) → Prop} {P' : Value → Prop} (d : EvN c env m nw e P) (hp : ∀ v tl, P v tl → P' v) : Ev c env m nw e P' := fun s h tk Q C kq => d s h tk Q C fun v tl h' tk' C' _ pv => kq v h' tk' (C'.sub fun p hp => List.mem_append_right _ hp) (hp v tl pv)
end
end
end
end Mine

namespace Mine
section
variable {k : Nat} {f : Addr} {nw : List (Addr × Obj)} {vs : List Value} {Ret : Value → List (Addr × Obj) → Prop} {name qual : Str} {params : Arguments} {body : List Stmt} {scope : Scope} {dV kV doc pm cdv ct oc : Value} {an od : Option Addr} {osl : Array (Option Value)}
theorem Ok.in {c : Cx} {e : Env} {h : Heap} {L : Addr} {A₀ : Around} {base : Heap} {outer : List Env} {loose : List Str} {mean : ExcName → Option Value} {mg mb : Str → Option Value} (O : Ok c (k + 1)) (X : (hd0183.heap_39 c.w.params).In h) (T : Top hd0183.view_39 loose mean mg mb h) (B : Below A₀ base outer h) (hA : (c.A.deeper e).frames = some (e :: outer)) (hf : e.frame = some L) (hk : e.scope.kind = .function)
    (hu : (c.A.deeper e).units ≤ c.A.units + 16) (hd : (c.A.deeper e).depth = c.A.depth + 1) (hh : (c.A.deeper e).handled = none) : Ok ⟨c.w, c.A.deeper e, h, L⟩ k :=
  ⟨X, ⟨_, _, _, _, T⟩, ⟨_, base, e, outer, B, hA, hf, hk⟩, hh, by have := O.hd; show (c.A.deeper e).depth + k < _; rw [hd, Nat.add_assoc, Nat.add_comm 1 k]; exact this, by
    have := O.hu
    show (c.A.deeper e).units + 16 * k < _
    exact Nat.lt_of_le_of_lt (Nat.add_le_add_right hu _) (by rw [Nat.add_assoc, Nat.add_comm 16]; exact this)⟩
theorem enterS {rs : List Value} {binds : Addr → List (Str × Value)} {g₁ : World → Addr → Option (List (Str × Value))}
    (ho : ∀ w : World, (hd0183.heap_39 w.params).lookup f = some ⟨oc, od, .func (fnOf name qual params body scope dV kV doc pm an cdv ct), osl⟩) (hcd : ∀ w : World, codeIn (hd0183.heap_39 w.params) cdv qual = true)
    (hr : vs.drop (params.posonlyargs.length + params.args.length) = rs) (hpk : ∀ w : World, peek1 (hd0183.heap_39 w.params) { program := PR, params := w.params } (bindArgs (fnOf name qual params body scope dV kV doc pm an cdv ct) ⟨vs, []⟩) = some (tupObj rs, g₁ w)) (hg : ∀ w D, g₁ w D = some (binds D))
    (hloc : ∀ D, ∀ y ∈ binds D, scope.names.lookup y.1 = some .local)
    (hco : scope.isCoroutine = false) (hgen : scope.isGenerator = false) (hk : scope.kind = .function) (hcell : ∀ x ∈ scope.names, x.2 ≠ .cell)
    (hb : ∀ (c : Cx) s h tk m D (R : Flow → Shared → Prop), Ok c k → Cur c m ((D, tupObj rs) :: nw) h → (∀ x v, (binds D).reverse.lookup x = some v → m x = some v) →
      (∀ r tl h' tk' m' nw', Cur c m' nw' h' → (∀ p ∈ tl ++ nw, p ∈ nw') → (∀ q ∈ nw, ∀ p ∈ tl, @Ne Nat q.1 p.1) → Ret r tl → R (.ret r) { s with heap := h', toks := tk' }) → Go c (envOf qual scope c.L f cdv) body R s h tk) : Dz (k + 1) f vs nw Ret := by
  intro c m s h tk Q O C kQ E
  refine wpAny_call ?_
  obtain ⟨A₀, base, e, outer, B, hA, hf, hke⟩ := O.B
  obtain ⟨_, _, _, _, T⟩ := O.T
  refine kp_rest (vs := rs) B C.F O.X C.N T hA hf hke (ho c.w) (hcd c.w) (Nat.lt_of_le_of_lt (Nat.le_add_right _ _) O.hd) hr (hpk c.w) (hg c.w) hloc (fun D g L' h₁ _ FG F' N' B' X' T' => ?_) hco hgen hk hcell
  exact wpAny_mono (hb ⟨c.w, c.A.deeper (envOf qual scope L' f cdv), g, L'⟩ s h₁ _ (fun y => (binds D).reverse.lookup y) D (fun fl s' => LeaveK c.h₀ c.L m g _ (match fl with | .ret v => v | _ => .none) s') (O.in X' T' B' (Around.frames_deeper hA) rfl hk (Nat.add_le_add_left (by decide) _) rfl O.hh) ⟨F', N'⟩ (fun _ _ e => e) (fun r tl h' tk' m' nw' C' sub ord hr => leaveK_ C'.F C'.N fun F'' N'' => kQ r tl h' tk' ⟨F'', fun p hp => N'' p (sub p hp)⟩ ord hr) _) (fun _ _ q => q) (fun _ _ z => z)
theorem enterC {binds : List (Str × Value)}
    (ho : ∀ w : World, (hd0183.heap_39 w.params).lookup f = some ⟨oc, od, .func (fnOf name qual params body scope dV kV doc pm an cdv ct), osl⟩) (hcd : ∀ w : World, codeIn (hd0183.heap_39 w.params) cdv qual = true)
    (hbind : ∀ s, BindsTo s (fnOf name qual params body scope dV kV doc pm an cdv ct) ⟨vs, []⟩ binds) (hloc : (binds.all fun y => scope.names.lookup y.1 == some .local || scope.names.lookup y.1 == some .cell) = true) (hnd : ((cellsFrom 0 scope.names []).map (·.1)).Nodup)
    (hco : scope.isCoroutine = false) (hgen : scope.isGenerator = false) (hk : scope.kind = .function)
    (hb : ∀ (c : Cx) s h tk m cells (R : Flow → Shared → Prop), Ok c k → Cur c m (cells ++ nw) h → (∀ x v, bindL (envOfC qual scope c.L f cdv).kindOf binds (fun _ => none) x = some v → m x = some v) → CellsAre (bindC (envOfC qual scope c.L f cdv).kindOf binds fun _ => none) (cellsFrom (c.L + 1) scope.names []) cells → (∀ p ∈ nw, @LT.lt Nat _ p.1 c.L) →
      (∀ r tl h' tk' m' nw', Cur c m' nw' h' → (∀ p ∈ tl ++ nw, p ∈ nw') → (∀ q ∈ nw, ∀ p ∈ tl, @Ne Nat q.1 p.1) → Ret r tl → R (.ret r) { s with heap := h', toks := tk' }) → Go c (envOfC qual scope c.L f cdv) body R s h tk) : Dz (k + 1) f vs nw Ret := by
  intro c m s h tk Q O C kQ E
  refine wpAny_call ?_
  obtain ⟨A₀, base, e, outer, B, hA, hf, hke⟩ := O.B
  obtain ⟨_, _, _, _, T⟩ := O.T
  refine PySem.W.code_defC B C.F O.X C.N T hA hf hke (ho c.w) (hcd c.w) (Nat.lt_of_le_of_lt (Nat.le_add_right _ _) O.hd) (hbind _) hloc hnd (fun g L' h₁ tk' cells FG F' N' Y' B' X' T' l1 => ?_) hco hgen hk
  exact wpAny_mono (hb ⟨c.w, c.A.deeper (envOfC qual scope L' f cdv), g, L'⟩ s h₁ tk' _ cells (fun fl s' => LeaveK c.h₀ c.L m g _ (match fl with | .ret v => v | _ => .none) s') (O.in X' T' B' (Around.frames_deeper hA) rfl hk (Nat.add_le_add_left (by decide) _) rfl O.hh) ⟨F', N'⟩ (fun _ _ e => e) Y' l1 (fun r tl h' tk' m' nw' C' sub ord hr => leaveK_ C'.F C'.N fun F'' N'' => kQ r tl h' tk' ⟨F'', fun p hp => N'' p (sub p hp)⟩ ord hr) _) (fun _ _ q => q) (fun _ _ z => z)
end
section
variable {c : Cx} {env : Env} {m : Str → Option Value} {nw : List (Addr × Obj)} {pos p : Pos} {k : Nat} {e : Expr} {s : Shared} {h : Heap} {tk : Nat} {Q : Flow → Shared → Prop} {rest body orelse : List Stmt} {x : Str}
theorem go_forS {n : Nat} {P : Nat → Value → Prop} {S : List (Addr × Obj) → Prop} {it : Expr} {px : Pos} (O : Ok c k) (J : Nat → (Str → Option Value) → List (Addr × Obj) → Prop) (K : (Str → Option Value) → List (Addr × Obj) → Prop) (C : Cur c m nw h) (d : Src c env m nw it n P S)
    (hJS : ∀ i m nw, J i m nw → S nw) (h0 : J 0 m nw)
    (turn : ∀ I i v m₁ nw₁ oI h tk (R : Flow → Shared → Prop), i < n → P i v → J i m₁ nw₁ → (∀ p ∈ nw₁, @Ne Nat p.1 I) → Cur c (fun y => if y = x then some v else m₁ y) ((I, oI) :: nw₁) h →
      (∀ h' tk' m' nw', Cur c m' ((I, oI) :: nw') h' → (∀ p ∈ nw', @Ne Nat p.1 I) → J (i + 1) m' nw' → R .next { s with heap := h', toks := tk' }) →
      (∀ h' tk' m' nw', Cur c m' nw' h' → K m' nw' → R .brk { s with heap := h', toks := tk' }) → Go c env body R s h tk)
    (fin : ∀ m₁ nw₁ h tk (R : Flow → Shared → Prop), J n m₁ nw₁ → Cur c m₁ nw₁ h → (∀ h' tk' m' nw', Cur c m' nw' h' → K m' nw' → R .next { s with heap := h', toks := tk' }) → Go c env orelse R s h tk)
    (out : ∀ m₁ nw₁ h tk, K m₁ nw₁ → Cur c m₁ nw₁ h → Go c env rest Q s h tk)
    (hL : env.locals = c.L) (hx : env.kindOf x = some .local) (hp : (env.scope.kind == .class || (env.scope.kind == .module && env.locals != env.globals)) = false) (hs : ∀ x, foldedSetIterable it env x = pure x) :
    Go c env (.For (.Name x px) it body orelse pos :: rest) Q s h tk := go_for O J K (fun Q' k => d s h tk Q' C k) hJS h0 turn fin out hL hx hp hs
theorem Then.end {s' : Shared} (k : Q .next s') : Then c env [] Q .next s' := fun _ => wpAny_execs_nil k
theorem Tv.as {b b' : Bool} {nw : List (Addr × Obj)} (h : Tv c env m nw e b) (hb : b = b') : Tv c env m nw e b' := hb ▸ h
structure Stored (nw : List (Addr × Obj)) (d : Addr) (v : Value) (nw' : List (Addr × Obj)) : Prop where
  at' : ∃ o, (d, o) ∈ nw' ∧ o.data = .cell (some v)
  sub : ∀ p ∈ nw, (@Ne Nat p.1 d ∨ ∀ u, p.2.data ≠ .cell u) → p ∈ nw'
theorem store_cell {Q : Unit → Shared → Prop} {v : Value} {d : Addr} {o : Obj} {v₀ : Option Value} (C : Cur c m nw h) (hc : env.cells.lookup x = some d) (hm : (d, o) ∈ nw) (hd : o.data = .cell v₀) (hk : env.scope.kind = .function) (hx : env.kindOf x = some .cell)
    (kq : ∀ h' tk' nw', Cur c m nw' h' → Stored nw d v nw' → Q () { s with heap := h', toks := tk' }) (E : Value → Shared → Prop) : wpAny (model PR c.w) c.A (storeName env x v) Q E { s with heap := h, toks := tk } := by
  have z := C.N _ hm
  refine wpAny_storeName_cell (s := { s with heap := h, toks := tk }) hk hx hc ⟨o, z.1, hd⟩ fun h' hv hs => ?_
  obtain ⟨o', ho', hd'⟩ := hv
  refine kq h' tk ((d, o') :: nw.filter fun p => decide (@Ne Nat p.1 d)) ⟨C.F.change hs z.2.1 z.2.2, news_cons ho' z.2.1 z.2.2 fun p hp => ?_⟩ ⟨⟨o', .head _, hd'⟩, fun p hp hq => ?_⟩
  · obtain ⟨hp, hn⟩ := List.mem_filter.mp hp
    have y := C.N p hp
    exact ⟨hs.extBut _ _ (of_decide_eq_true hn) y.1, y.2⟩
  · refine .tail _ (List.mem_filter.mpr ⟨hp, decide_eq_true (hq.elim id fun hq e => ?_)⟩)
    have y := (C.N p hp).1
    rw [show p.1 = d from e, z.1] at y
    exact hq _ ((congrArg Obj.data (Option.some.inj y)).symm.trans hd)
theorem go_asgC {P : Value → List (Addr × Obj) → Prop} {ac : Addr} {o : Obj} {v₀ : Option Value} (C : Cur c m nw h) (d : EvN c env m nw e P) (hm : (ac, o) ∈ nw) (hd : o.data = .cell v₀)
    (kq : ∀ v tl h' tk' nw', P v tl → Ord nw tl → Cur c m nw' h' → Stored (tl ++ nw) ac v nw' → Go c env rest Q s h' tk') (hc : env.cells.lookup x = some ac) (hk : env.scope.kind = .function) (hx : env.kindOf x = some .cell) (hs : swapsWith e (some (.Name x p)) pos.line env = pure false) :
    Go c env (.Assign [.Name x p] e pos :: rest) Q s h tk :=
  go_seq fun E => wpAny_Assign_Name (d s h tk _ C (fun v tl h1 tk1 C1 o1 pv => store_cell (Q := fun _ s' => wpAny (model PR c.w) c.A (execs rest env) Q E s') C1 hc (List.mem_append_right _ hm) hd hk hx (fun h' tk' nw' C' st => kq v tl h' tk' nw' pv o1 C' st E) E) E) hs
end
end Mine

namespace Mine
theorem joined_len {x y : Str} (hx : x.length ≤ 1000) (hy : y.length ≤ 1000) : x.length + (slash ++ y).length ≤ sizeLine := by
  rw [Str.length_append, slen, sizeLine_eq]
  exact Nat.le_trans (Nat.add_le_add hx (Nat.add_le_add_left hy 1)) (by decide)
theorem len_pos {x : Str} (h : 0 < x.length) : ((x.length : Int) != 0) = true := bne_iff_ne.mpr (Int.ne_of_gt (Int.ofNat_lt.mpr h))
theorem joined_t {x y : Str} {v : Value} (h : PySem.Txt.endswith x slash = true) (hv : IsS (x ++ y) v) : IsS (joined x y) v := by
  rw [show joined x y = x ++ y from if_pos h]; exact hv
theorem joined_f {x y : Str} {v : Value} (h : PySem.Txt.endswith x slash = false) (hv : IsS (x ++ (slash ++ y)) v) : IsS (joined x y) v := by
  rw [show joined x y = x ++ (slash ++ y) from if_neg (by rw [h]; exact Bool.false_ne_true)]; exact hv
inductive JInv (x y : Str) (ny : Value) (nw : List (Addr × Obj)) : Nat → (Str → Option Value) → List (Addr × Obj) → Prop
  | mk {i m v u} (hp : m (Str.ofString "path") = some v) (h1 : IsS (if i = 0 then x else joined x y) v) (hs : m (Str.ofString "sep") = some u) (h2 : IsS slash u) : JInv x y ny nw i m nw
theorem z_join (x y : Str) (nw : List (Addr × Obj)) (hx : x.length ≤ 1000) (hy : y.length ≤ 1000) (hne : 0 < x.length) (hs : PySem.Txt.startswith y slash = false) (vs : List Value) (hv : ∃ v u, vs = [v, u] ∧ IsS x v ∧ IsS y u) : Dz 2 153 vs nw (fun r tl => IsS (joined x y) r ∧ tl = []) := by
  obtain ⟨v, u, e, ⟨t, e1⟩, t2, e2⟩ := hv
  subst e e1 e2
  have kfill : Mine.trow = Mine.trow ∧ hd0183.heap_39 = hd0183.heap_39 := by k_fill; exact ⟨rfl, rfl⟩
  refine' Mine.enterS (binds := fun D => [(Str.ofString "a", .str x t), (Str.ofString "p", .ref D)]) (rs := [.str y t2]) ?ka ?kb ?kr ?kp ?kq ?kd ?ke ?kf ?kg ?kh ?_; (case ka => intro w; k_is); (case kb => intro w; k_is); (case kr => exact rfl); (case kp => intro w; exact rfl); (case kq => exact fun _ _ => rfl); (case kd => exact fun _ => locs rfl); (case ke => exact rfl); (case kf => exact rfl); (case kg => exact rfl); (case kh => decide)
  clear kfill
  intro c s h tk m D R O C ha hR
  refine go_asg (hL := by rfl) (hl := by rfl) (hp := by rfl) (hs := by rfl) C (.of (.def (hk := by rfl) (hx := by rfl) (hg := by rfl) (hd := by decide) (he := by rfl) (hs := by rfl) (hp := by rfl) O d_fspath (.one (hs := by rfl) (.loc (hL := by rfl) (hk := by rfl) (hl := by rfl) (hd := by decide) (ha _ _ rfl) ⟨t, rfl⟩)) (z_fspath x _))) fun v m1 h1 tk1 hp C1 ea kp => ?_
  have ep := kp (Str.ofString "p") _ (by decide) (ha _ _ rfl)
  refine go_asg (hL := by rfl) (hl := by rfl) (hp := by rfl) (hs := by rfl) C1 (.of (.def (hk := by rfl) (hx := by rfl) (hg := by rfl) (hd := by decide) (he := by rfl) (hs := by rfl) (hp := by rfl) O d_sep (.one (hs := by rfl) (.loc (hL := by rfl) (hk := by rfl) (hl := by rfl) (hd := by decide) ea hp)) (z_sep x _))) fun v2 m2 h2 tk2 hs2 C2 es kp => ?_
  have ep := kp _ _ (by decide) ep
  have ea := kp _ _ (by decide) ea
  refine go_asg (hL := by rfl) (hl := by rfl) (hp := by rfl) (hs := by rfl) C2 (.loc (hL := by rfl) (hk := by rfl) (hl := by rfl) (hd := by decide) ea rfl) fun v3 m3 h3 tk3 e3 C3 eq kp => ?_
  have ep := kp _ _ (by decide) ep
  have es := kp _ _ (by decide) es
  subst e3
  refine go_try (go_forS (hL := by rfl) (hx := by rfl) (hp := by rfl) (hs := by intro _; rfl) O (JInv x y (.str y t2) _) (fun m' nw' => nw' = ((D, tupObj [.str y t2]) :: nw) ∧ ∃ v, m' (Str.ofString "path") = some v ∧ IsS (joined x y) v) C3 (src_tup O (.head _) (.loc (hL := by rfl) (hk := by rfl) (hl := by rfl) (hd := by decide) ep rfl)) (fun i m' nw' hJ => by cases hJ; exact ⟨_, .head _⟩) (.mk eq hp es hs2) (fun I i v m4 nw4 oI h4 tk4 R' hi hv hJ off C4 hN hB => ?_) (fun m4 nw4 h4 tk4 R' hJ C4 hN => ?_) fun m4 nw4 h4 tk4 hK C4 => ?_)
  · cases hJ with
    | mk ep hp es hs2 =>
    cases Nat.lt_one_iff.mp hi
    cases hv
    replace hp : IsS x _ := hp
    refine go_asg (hL := by rfl) (hl := by rfl) (hp := by rfl) (hs := by rfl) C4 (.of (.def (hk := by rfl) (hx := by rfl) (hg := by rfl) (hd := by decide) (he := by rfl) (hs := by rfl) (hp := by rfl) O d_fspath (.one (hs := by rfl) (.loc (hL := by rfl) (hk := by rfl) (hl := by rfl) (hd := by decide) (if_pos rfl) ⟨t2, rfl⟩)) (z_fspath y _))) fun v5 m5 h5 tk5 hb C5 eb kp => ?_
    have ep := kp _ _ (by decide) ((if_neg (by decide)).trans ep)
    have es := kp _ _ (by decide) ((if_neg (by decide)).trans es)
    refine go_if (b := false) C5 (.as (.parts (.or (.val (he := by rfl) truth_bool (.smeth (he := by rfl) (hs := by rfl) g_startswith s_startswith (.loc (hL := by rfl) (hk := by rfl) (hl := by rfl) (hd := by decide) eb hb) (.loc (hL := by rfl) (hk := by rfl) (hl := by rfl) (hd := by decide) es hs2))) fun _ => .or (.not (.val (he := by rfl) (.str (Nat.le_trans hx (by decide))) (.loc (hL := by rfl) (hk := by rfl) (hl := by rfl) (hd := by decide) ep hp))) fun _ => .or_nil)) (by rw [hs, len_pos hne]; rfl)) fun h6 tk6 C6 => ?_
    refine go_ite C6 (.val (he := by rfl) truth_bool (.smeth (he := by rfl) (hs := by rfl) g_endswith s_endswith (.loc (hL := by rfl) (hk := by rfl) (hl := by rfl) (hd := by decide) ep hp) (.loc (hL := by rfl) (hk := by rfl) (hl := by rfl) (hd := by decide) es hs2))) (fun h7 tk7 C7 hb7 => ?_) fun h7 tk7 C7 hb7 => ?_
    · exact go_aug (hL := by rfl) (hl := by rfl) (hp := by rfl) (hk := by rfl) C7 ep hp (iop_adds (Nat.le_trans (Nat.add_le_add hx hy) (by decide))) (.loc (hL := by rfl) (hk := by rfl) (hl := by rfl) (hd := by decide) eb hb) fun v8 m8 h8 tk8 h8' C8 ep8 kp => go_nil (Then.end (Then.end (hN _ _ _ _ C8 off (.mk ep8 (joined_t hb7 h8') (kp _ _ (by decide) es) hs2))))
    · exact go_aug (hL := by rfl) (hl := by rfl) (hp := by rfl) (hk := by rfl) C7 ep hp (iop_adds (joined_len hx hy)) (.binR (op_adds (by rw [slen]; exact Nat.le_trans (Nat.add_le_add_left hy 1) (by decide))) (.loc (hL := by rfl) (hk := by rfl) (hl := by rfl) (hd := by decide) es hs2) (.loc (hL := by rfl) (hk := by rfl) (hl := by rfl) (hd := by decide) eb hb)) fun v8 m8 h8 tk8 h8' C8 ep8 kp => go_nil (Then.end (Then.end (hN _ _ _ _ C8 off (.mk ep8 (joined_f hb7 h8') (kp _ _ (by decide) es) hs2))))
  · cases hJ with
    | mk ep hp es hs2 => exact go_nil (hN _ _ _ _ C4 ⟨rfl, _, ep, hp⟩)
  · obtain ⟨e, v, ep, hp⟩ := hK
    subst e
    exact Then.nil (go_ret C4 (.loc (hL := by rfl) (hk := by rfl) (hl := by rfl) (hd := by decide) ep hp) fun v h5 tk5 hv C5 => hR v [] h5 tk5 _ _ C5 (fun p hp => .tail _ hp) no_ord ⟨hv, rfl⟩)
end Mine

namespace Mine
theorem hi_eq (n i : Nat) : n - n % 2 ^ i = 2 ^ i * (n / 2 ^ i) := Nat.sub_eq_of_eq_add (Nat.div_add_mod n (2 ^ i)).symm
theorem hi_and (n i : Nat) : (n - n % 2 ^ i) &&& 2 ^ i = if n.testBit i = true then 2 ^ i else 0 := by
  rw [hi_eq]
  apply Nat.eq_of_testBit_eq
  intro j
  rw [Nat.testBit_and, Nat.testBit_two_pow_mul, Nat.testBit_div_two_pow, Nat.testBit_two_pow]
  by_cases h : i = j
  · subst h; by_cases hb : n.testBit i = true <;> simp [hb]
  · by_cases hb : n.testBit i = true <;> simp [hb, h]
theorem mod_succ (n i : Nat) : n % 2 ^ (i + 1) = n % 2 ^ i + if n.testBit i = true then 2 ^ i else 0 := by
  rw [Nat.mod_pow_succ, ← Nat.toNat_testBit]
  cases n.testBit i with
  | true => exact congrArg _ (Nat.mul_one _)
  | false => rfl
theorem hi_off {n i : Nat} (h : ¬ n.testBit i = true) : n - n % 2 ^ (i + 1) = n - n % 2 ^ i := by rw [mod_succ, if_neg h, Nat.add_zero]
theorem hi_on {n i : Nat} (h : n.testBit i = true) : n - n % 2 ^ i = n - n % 2 ^ (i + 1) + 2 ^ i := by
  have h2 := Nat.mod_le n (2 ^ (i + 1))
  rw [mod_succ, if_pos h] at h2 ⊢
  rw [Nat.sub_add_eq, Nat.sub_add_cancel (Nat.le_sub_of_add_le (Nat.add_comm .. ▸ h2))]
theorem bit_lt {n i : Nat} (hn : n < 4096) (h : n.testBit i = true) : i < 12 := by
  by_cases hi : i < 12
  · exact hi
  · have : n.testBit i = false := Nat.testBit_lt_two_pow (Nat.lt_of_lt_of_le hn (Nat.pow_le_pow_right (by decide) (Nat.not_lt.mp hi) : 2 ^ 12 ≤ 2 ^ i))
    rw [this] at h; cases h
theorem bitsTo_succ (n i : Nat) : bitsTo n (i + 1) = bitsTo n i ++ if n.testBit i = true then [i] else [] := by
  unfold bitsTo
  rw [List.range_succ, List.filter_append, List.filter_cons, List.filter_nil]
theorem bitsTo_length (n i : Nat) : (bitsTo n i).length ≤ i := Nat.le_trans (List.length_filter_le _ _) (Nat.le_of_eq List.length_range)
theorem bitsTo_over {n i : Nat} (h : n < 2 ^ i) : ∀ k, bitsTo n (i + k) = bitsTo n i
  | 0 => rfl
  | k + 1 => by
    rw [← Nat.add_assoc, bitsTo_succ, bitsTo_over h k, if_neg, List.append_nil]
    rw [Nat.testBit_lt_two_pow (Nat.lt_of_lt_of_le h (Nat.pow_le_pow_right (by decide) (Nat.le_add_right i k)))]
    exact Bool.false_ne_true
theorem lt_of_hi0 {n i : Nat} (h : n - n % 2 ^ i = 0) : n < 2 ^ i := Nat.lt_of_le_of_lt (Nat.le_of_sub_eq_zero h) (Nat.mod_lt n (Nat.two_pow_pos i))
theorem ge_of_hi {n i : Nat} (h : n - n % 2 ^ i ≠ 0) : 2 ^ i ≤ n := Nat.not_lt.mp fun hl => h (by rw [Nat.mod_eq_of_lt hl, Nat.sub_self])
theorem pos_of_off {n i : Nat} (hp : n ≠ 0 → 2 ^ i ≤ n) (h : ¬ n.testBit i = true) : n ≠ 0 → 2 ^ (i + 1) ≤ n := fun hn =>
  ge_of_hi fun e => by
    rw [hi_off h] at e
    exact absurd (lt_of_hi0 e) (Nat.not_lt.mpr (hp hn))
theorem nameOf_length : ∀ k, k < 32 → (nameOf k).length ≤ 18 := by decide +kernel
theorem weight_of {ts : List Str} (h : ∀ y ∈ ts, y.length ≤ 18) : (ts.map (·.length)).sum ≤ 18 * ts.length := Nat.mul_comm .. ▸ StrLaws.sumLen_le (B := 18) ts h
theorem weight_bits (n i : Nat) (hi : i ≤ 32) : (((bitsTo n i).map nameOf).map (·.length)).sum + ((bitsTo n i).map nameOf).length ≤ 1048576 := by
  have h1 := weight_of (ts := (bitsTo n i).map nameOf) (fun y hy => by obtain ⟨k, hk, e⟩ := List.mem_map.mp hy; exact e ▸ nameOf_length k (Nat.lt_of_lt_of_le (List.mem_range.mp (List.mem_filter.mp hk).1) hi))
  rw [List.length_map] at h1 ⊢
  have h2 := Nat.le_trans (bitsTo_length n i) hi
  exact Nat.le_trans (Nat.add_le_add (Nat.le_trans h1 (Nat.mul_le_mul_left 18 h2)) h2) (by decide)
theorem wordsOf_of {n i : Nat} (hi : i ≤ 12) (h : n - n % 2 ^ i = 0) (h0 : n ≠ 0) : wordsOf n = (bitsTo n i).map nameOf := by
  unfold wordsOf
  rw [if_neg h0, ← Nat.add_sub_cancel' hi, bitsTo_over (lt_of_hi0 h)]
theorem snoc_bits {vs : List Value} {n i : Nat} (hb : n.testBit i = true) (hvs : StrsAre vs ((bitsTo n i).map nameOf)) (t : Tok) : StrsAre (vs ++ [.str (nameOf i) t]) ((bitsTo n (i + 1)).map nameOf) := by
  rw [bitsTo_succ, if_pos hb, List.map_append]
  exact kct_snoc hvs
noncomputable def pretty (n : Nat) : Str := PySem.Txt.join (Str.ofString ", ") (wordsOf n)
end Mine

namespace Mine
section
variable {c : Cx} {env : Env} {m : Str → Option Value} {nw : List (Addr × Obj)} {pos p ap pf : Pos} {kk k : Nat} {e f o a b : Expr} {es : List Expr}
theorem Ev.methG {name : Str} {id : String} {pl : Sem Bool} {Po : Value → Prop} {Ps : List Value → Prop} {R : Value → Prop} (g : ∀ (pl : Sem Bool) (s : Shared) h tk (Q : Value × List Value → Shared → Prop) (E : Value → Shared → Prop) v, Cur c m nw h → Po v → Q (.builtin id, [v]) { s with heap := h, toks := tk } → wpAny (model PR c.w) c.A (getMethod v name pl) Q E { s with heap := h, toks := tk })
    (bz : ∀ v vs, Po v → Ps vs → Bz c m nw (.builtin id) (v :: vs) R) (ho : Ev c env m nw o Po) (ha : Evs c env m nw (e :: es) Ps)
    (he : eval (.Call (.Attribute o name ap) (e :: es) [] pos) env = (do
      let ov ← eval o env
      standAt ap.atName
      let (f, first) ← holding [ov] (getMethod ov name pl)
      callWith pos f first (backTo pos (starEach (e :: es) env)) [])) (hs : starEach (e :: es) env = (false, eval e env) :: starEach es env) (hp : (backTo pos (starEach es env)).any (·.1) = false) :
    Ev c env m nw (.Call (.Attribute o name ap) (e :: es) [] pos) R := fun s h tk Q C kq E =>
  MethodCall_ (ho s h tk _ C (fun v h1 tk1 C1 pv => g pl s h1 tk1 _ _ v C1 pv (callWith_method1 (ha s h1 tk1 pos _ C1 (fun vs h2 tk2 C2 pvs => bz v vs pv pvs s h2 tk2 Q C2 kq E) E) hs hp)) E) he
theorem g_join {pl : Sem Bool} : GMs (Str.ofString "join") "str.join" pl := by
  intro w A s Q E x t q
  with_reducible exact GM.join q
theorem bz_join {x : Str} {ys : List Str} {l : Addr} {vs : List Value} {t : Tok} (hm : LAt vs nw l) (hs : StrsAre vs ys) (hx : x.length ≤ 16) (hw : (ys.map (·.length)).sum + ys.length ≤ 1048576) : Bz c m nw (.builtin "str.join") [.str x t, .ref l] (IsS (PySem.Txt.join x ys)) := fun s h tk Q C kq E => by
  obtain ⟨nn, hm⟩ := hm
  exact join_listW (s := { s with heap := h, toks := tk }) (C.N.isList hm) hs hx hw fun t' k => kq _ _ _ C ⟨_, rfl⟩
theorem Ev.join {x : Str} {ys : List Str} {l : Addr} {vs : List Value} {pl : Sem Bool} (hm : LAt vs nw l) (hs : StrsAre vs ys) (hx : x.length ≤ 16) (hw : (ys.map (·.length)).sum + ys.length ≤ 1048576) (ho : Ev c env m nw o (IsS x)) (ha : Ev c env m nw a (· = .ref l))
    (he : eval (.Call (.Attribute o (Str.ofString "join") ap) [a] [] pos) env = (do
      let ov ← eval o env
      standAt ap.atName
      let (f, first) ← holding [ov] (getMethod ov (Str.ofString "join") pl)
      callWith pos f first (backTo pos (starEach [a] env)) [])) (hst : starEach [a] env = (false, eval a env) :: starEach [] env) : Ev c env m nw (.Call (.Attribute o (Str.ofString "join") ap) [a] [] pos) (IsS (PySem.Txt.join x ys)) :=
  Ev.meth (fun _ _ _ _ _ q1z q => by obtain ⟨t, e⟩ := q1z; subst e; exact g_join _ _ _ _ _ _ t q) (fun v us q2z q3z => by obtain ⟨t, e⟩ := q2z; obtain ⟨u, e1, e2⟩ := q3z; subst e e1 e2; exact bz_join hm hs hx hw) ho (.one ha hst) he hst rfl
theorem bz_hex {x : Int} (hz : (baseText "0x" 16 x).length ≤ sizeLine) (vs : List Value) : (∃ v, vs = [v] ∧ IsI x v) → Bz c m nw (.builtin "hex") vs (IsS (baseText "0x" 16 x)) := fun q4z => by
  obtain ⟨v, e, t, e1⟩ := q4z
  subst e e1
  exact fun s h tk Q C kq E => P.hex_of_int (kq _ h _ C ⟨_, rfl⟩) hz
theorem news_upd {h₀ h h' : Heap} {L l : Addr} {ob ob' : Obj} {pre : List (Addr × Obj)} (N : News h₀ L h (pre ++ (l, ob) :: nw)) (hs : Heap.SameBut l h h') (e : h'.get? l = some ob') (off : ∀ p ∈ pre ++ nw, @Ne Nat p.1 l) : News h₀ L h' (pre ++ (l, ob') :: nw) := fun p hp => by
  cases List.mem_append.mp hp with
  | inl hp =>
    have y := N p (List.mem_append_left _ hp)
    exact ⟨hs.extBut _ _ (off p (List.mem_append_left _ hp)) y.1, y.2⟩
  | inr hp =>
    cases hp with
    | head => exact ⟨e, (N _ (List.mem_append_right _ (.head _))).2⟩
    | tail _ hp =>
      have y := N p (List.mem_append_right _ (.tail _ hp))
      exact ⟨hs.extBut _ _ (off p (List.mem_append_right _ hp)) y.1, y.2⟩
theorem g_split {pl : Sem Bool} : GMs (Str.ofString "split") "str.split" pl := by
  intro w A s Q E x t q
  with_reducible exact GM.split q
noncomputable def NewL (T : List Value → Prop) (v : Value) (tl : List (Addr × Obj)) : Prop := ∃ l vs nn, v = .ref l ∧ tl = [(l, W.listOf (vs : List Value).toArray nn)] ∧ T vs
theorem EvN.split {x y : Str} {pl : Sem Bool} (hy : (y.length == 0) = false) (hz : x.length + 2 ≤ sizeLine) (ho : Ev c env m nw o (IsS x)) (ha : Ev c env m nw a (IsS y))
    (he : eval (.Call (.Attribute o (Str.ofString "split") ap) [a] [] pos) env = (do
      let ov ← eval o env
      standAt ap.atName
      let (f, first) ← holding [ov] (getMethod ov (Str.ofString "split") pl)
      callWith pos f first (backTo pos (starEach [a] env)) [])) (hst : starEach [a] env = (false, eval a env) :: starEach [] env) : EvN c env m nw (.Call (.Attribute o (Str.ofString "split") ap) [a] [] pos) (NewL (StrsAre · (PySem.Txt.split x y))) := fun s h tk Q C kq E =>
  MethodCall_ (ho s h tk _ C (fun v h1 tk1 C1 q5z => by
    obtain ⟨t, e⟩ := q5z
    subst e
    exact g_split _ _ _ _ _ _ t (callWith_method1 (Evs.one ha hst s h1 tk1 pos _ C1 (fun us h2 tk2 C2 q6z => by
      obtain ⟨u, e, t2, e2⟩ := q6z
      subst e e2
      exact splitN1A (s := { s with heap := h2, toks := tk2 }) C2.F C2.N hy (fun l h' k el hl _ _ F' N' => kq _ [_] h' k ⟨F', N'⟩ (one_ord fun p hp => Nat.ne_of_lt (Heap.lt_size (C2.N p hp).1)) ⟨_, _, 0, rfl, rfl, el ▸ hl⟩) hz) E) hst rfl)) E) he
section
variable {s : Shared} {h : Heap} {tk : Nat} {Q : Flow → Shared → Prop} {rest body orelse : List Stmt}
theorem go_app {l : Addr} {vs : List Value} {nn : Nat} {pre : List (Addr × Obj)} {P : Value → Prop} {pl : Sem Bool} (C : Cur c m (pre ++ (l, W.listOf vs.toArray nn) :: nw) h) (ho : Ev c env m (pre ++ (l, W.listOf vs.toArray nn) :: nw) o (· = .ref l)) (ha : Ev c env m (pre ++ (l, W.listOf vs.toArray nn) :: nw) a P)
    (off : ∀ p ∈ pre ++ nw, @Ne Nat p.1 l) (hz : vs.length ≤ sizeLine) (kq : ∀ v h' tk', P v → Cur c m (pre ++ (l, W.listOf (vs ++ [v]).toArray (nn + 1)) :: nw) h' → Go c env rest Q s h' tk')
    (he : eval (.Call (.Attribute o (Str.ofString "append") ap) [a] [] pos) env = (do
      let ov ← eval o env
      standAt ap.atName
      let (f, first) ← holding [ov] (getMethod ov (Str.ofString "append") pl)
      callWith pos f first (backTo pos (starEach [a] env)) [])) (hst : starEach [a] env = (false, eval a env) :: starEach [] env)
    (hi : interactive env = false) (hs : swapsWith (.Call (.Attribute o (Str.ofString "append") ap) [a] [] pos) none p.line env = pure false) : Go c env (.Expr (.Call (.Attribute o (Str.ofString "append") ap) [a] [] pos) p :: rest) Q s h tk :=
  go_seq fun E => wpAny_Expr_any (MethodCall_ (ho s h tk _ C (fun v h1 tk1 C1 e => by
    subst e
    refine listMethod_K C1.N (List.mem_append_right _ (.head _)) F.slot_list_append F.type_list_append (callWith_method1 (Evs.one ha hst s h1 tk1 pos _ C1 (fun us h2 tk2 C2 q7z => ?_) E) hst rfl)
    obtain ⟨u, e, pu⟩ := q7z
    subst e
    have z := C2.N _ (List.mem_append_right _ (.head _))
    exact append_at (s := { s with heap := h2, toks := tk2 }) z.1 (fun h' hs e => kq u h' tk2 pu ⟨C2.F.change hs z.2.1 z.2.2, news_upd C2.N hs (by rw [← List.push_toArray]; exact e) off⟩ E) hz) E) he) hi hs
theorem go_forN {T : List Value → Prop} {it : Expr} {x : Str} {px : Pos} (O : Ok c k) (C : Cur c m nw h) (d : EvN c env m nw it (NewL T)) (J : List Value → Addr × Obj → Nat → (Str → Option Value) → List (Addr × Obj) → Prop) (K : Addr × Obj → (Str → Option Value) → List (Addr × Obj) → Prop)
    (hJS : ∀ vs l i m nw', J vs l i m nw' → l ∈ nw') (h0 : ∀ vs l, T vs → J vs l 0 m (l :: nw))
    (turn : ∀ vs l I i v m₁ nw₁ oI h tk (R : Flow → Shared → Prop), T vs → i < vs.length → vs[i]? = some v → J vs l i m₁ nw₁ → (∀ p ∈ nw₁, @Ne Nat p.1 I) → Cur c (fun y => if y = x then some v else m₁ y) ((I, oI) :: nw₁) h →
      (∀ h' tk' m' nw', Cur c m' ((I, oI) :: nw') h' → (∀ p ∈ nw', @Ne Nat p.1 I) → J vs l (i + 1) m' nw' → R .next { s with heap := h', toks := tk' }) →
      (∀ h' tk' m' nw', Cur c m' nw' h' → K l m' nw' → R .brk { s with heap := h', toks := tk' }) → Go c env body R s h tk)
    (fin : ∀ vs l m₁ nw₁ h tk (R : Flow → Shared → Prop), T vs → J vs l vs.length m₁ nw₁ → Cur c m₁ nw₁ h → (∀ h' tk' m' nw', Cur c m' nw' h' → K l m' nw' → R .next { s with heap := h', toks := tk' }) → Go c env orelse R s h tk)
    (out : ∀ l m₁ nw₁ h tk, K l m₁ nw₁ → Cur c m₁ nw₁ h → Go c env rest Q s h tk)
    (hL : env.locals = c.L) (hx : env.kindOf x = some .local) (hp : (env.scope.kind == .class || (env.scope.kind == .module && env.locals != env.globals)) = false) (hs : ∀ x, foldedSetIterable it env x = pure x) :
    Go c env (.For (.Name x px) it body orelse pos :: rest) Q s h tk := by
  cases c with | mk w A h₀ L =>
  cases hL
  exact go_seq fun E => wpAny_For (d s h tk _ C (fun v tl h1 tk1 C1 o q8z => by
    obtain ⟨l, vs, nn, e, e1, hT⟩ := q8z
    subst e e1
    refine iter_list (its := vs.toArray) (s := { s with heap := h1, toks := tk1 }) O.hh C1.F C1.N (Or.inr ⟨_, .head _, rfl, _, rfl⟩) fun I h' B => for_R B hx hp (J vs (l, W.listOf vs.toArray nn)) (K (l, W.listOf vs.toArray nn)) (fun i m nw' hJ => Or.inr ⟨_, hJS _ _ i m nw' hJ, rfl, _, rfl⟩) (h0 vs _ hT) (fun i v m₁ nw₁ h tk oI R hi hv hJ off F N hR hB => turn vs _ I i v m₁ nw₁ oI h tk R hT (by simpa using hi) (by simpa using hv) hJ off ⟨F, N⟩ (fun h' tk' m' nw' F' N' => hR h' tk' m' nw' F'.F F'.N N') (fun h' tk' m' nw' C' => hB h' tk' m' nw' C'.F C'.N) _)
      (fun m₁ nw₁ h tk R hJ F N hR => fin vs _ m₁ nw₁ h tk R hT (by simpa using hJ) ⟨F, N⟩ (fun h' tk' m' nw' C' => hR h' tk' m' nw' C'.F C'.N) _) (fun m₁ nw₁ h tk hK F N => out _ m₁ nw₁ h tk hK ⟨F, N⟩ E)) E) hs
end
end
end Mine

namespace Mine
noncomputable def flagTab : List (Int × PyData) := [(1, .str (nameOf 0)), (2, .str (nameOf 1)), (4, .str (nameOf 2)), (8, .str (nameOf 3)), (16, .str (nameOf 4)), (32, .str (nameOf 5)), (64, .str (nameOf 6)), (128, .str (nameOf 7)), (256, .str (nameOf 8)), (512, .str (nameOf 9))]
theorem each_name {h : Heap} {P : Value → Prop} : ∀ i, i < 12 → (∀ t, P (.str (nameOf i) t)) → KTD.Each h ((2 ^ i : Nat) : Int) P (KTD.Opened h P (.flat (.str (baseText "0x" 16 ((2 ^ i : Nat) : Int))))) (KTD.asDat flagTab)
  | 0, _, k => k
  | 1, _, k => k
  | 2, _, k => k
  | 3, _, k => k
  | 4, _, k => k
  | 5, _, k => k
  | 6, _, k => k
  | 7, _, k => k
  | 8, _, k => k
  | 9, _, k => k
  | 10, _, k => fun t => (show baseText "0x" 16 ((2 ^ 10 : Nat) : Int) = nameOf 10 by decide +kernel) ▸ k t
  | 11, _, k => fun t => (show baseText "0x" 16 ((2 ^ 11 : Nat) : Int) = nameOf 11 by decide +kernel) ▸ k t
  | _ + 12, h, _ => absurd (Nat.le_trans (Nat.le_add_left 12 _) (Nat.le_of_lt_succ h)) (by decide)
theorem get_flag {w : World} {A : Around} {h₀ : Heap} {L : Addr} {m : Str → Option Value} {s : Shared} {Q E : Value → Shared → Prop} {t u : Tok} {i : Nat} (X : (hd0183.heap_39 w.params).In h₀) (F : Fr h₀ L s.heap m) (hi : i < 12)
    (h : ∀ t, Q (.str (nameOf i) t) { s with toks := s.toks + 1 }) : wpAny (model PR w) A (call (.builtin "dict.get") [.ref 22, .int ((2 ^ i : Nat) : Int) t, .str (baseText "0x" 16 ((2 ^ i : Nat) : Int)) u]) Q E s :=
  KTD.get2_keyed (kt_keyed_in (a := 22) (D := flagTab) X (by kernel_rfl)) F.keep (PyProof.V.Flat.str _ _) (each_name i hi h)
theorem and_hi (n i : Nat) : Builtin.bitAnd ((n - n % 2 ^ i : Nat) : Int) ((2 ^ i : Nat) : Int) = if n.testBit i = true then ((2 ^ i : Nat) : Int) else 0 := by
  rw [bitAnd_pp (Int.natCast_nonneg _) (Int.natCast_nonneg _), Int.toNat_natCast, Int.toNat_natCast, hi_and]
  split <;> rfl
theorem xor_hi {n i : Nat} (h : n.testBit i = true) : Builtin.bitXor ((n - n % 2 ^ i : Nat) : Int) ((2 ^ i : Nat) : Int) = ((n - n % 2 ^ (i + 1) : Nat) : Int) := by
  rw [bitXor_and, and_hi, if_pos h, hi_on h]
  generalize n - n % 2 ^ (i + 1) = x
  generalize 2 ^ i = y
  omega
theorem wordsOf0 (t : Tok) : StrsAre [.str (baseText "0x" 16 0) t] (wordsOf 0) := (show baseText "0x" 16 0 = zeroWord by decide +kernel) ▸ .cons _ t .nil
theorem weight_words (n : Nat) : ((wordsOf n).map (·.length)).sum + (wordsOf n).length ≤ 1048576 := by
  unfold wordsOf
  split
  · decide +kernel
  · exact weight_bits n 12 (by decide)
theorem hex_small : ∀ i, i < 32 → (baseText "0x" 16 ((2 ^ i : Nat) : Int)).length ≤ 1000 := by decide +kernel
theorem g_range : Gb (Str.ofString "range") (.type "range") := ⟨fun _ => by kernel_rfl, rfl, by decide⟩
theorem g_hex : Gb (Str.ofString "hex") (.builtin "hex") := ⟨fun _ => by kernel_rfl, rfl, by decide⟩
theorem shl_i (i : Nat) : (1 * 2 ^ (i : Int).toNat : Int) = ((2 ^ i : Nat) : Int) := by
  rw [Int.one_mul]
  exact (Int.natCast_pow 2 i).symm
theorem and_ne (n i : Nat) : (Builtin.bitAnd ((n - n % 2 ^ i : Nat) : Int) ((2 ^ i : Nat) : Int) != 0) = n.testBit i := by
  rw [and_hi]
  cases n.testBit i with
  | true => exact bne_iff_ne.mpr fun h => absurd (Int.ofNat.inj h) (Nat.ne_of_gt (Nat.two_pow_pos i))
  | false => rfl
inductive PInv (n : Nat) (l : Addr) (nw : List (Addr × Obj)) : Nat → (Str → Option Value) → List (Addr × Obj) → Prop
  | mk {i m vs nn v} (hv : StrsAre vs ((bitsTo n i).map nameOf)) (hf : m (Str.ofString "flags") = some v) (hf2 : IsI ((n - n % 2 ^ i : Nat) : Int) v) (hn : m (Str.ofString "names") = some (.ref l)) (hp : n ≠ 0 → 2 ^ i ≤ n) : PInv n l nw i m ((l, W.listOf (vs : List Value).toArray nn) :: nw)
inductive POut (n : Nat) (nw : List (Addr × Obj)) : (Str → Option Value) → List (Addr × Obj) → Prop
  | mk {l m vs nn} (hv : StrsAre vs (wordsOf n)) (hn : m (Str.ofString "names") = some (.ref l)) : POut n nw m ((l, W.listOf (vs : List Value).toArray nn) :: nw)
theorem off_I {l I : Addr} {o : Obj} {nw : List (Addr × Obj)} {oI : Obj} (off : ∀ p ∈ (l, o) :: nw, @Ne Nat p.1 I) (hl : ∀ p ∈ nw, @Ne Nat p.1 l) : ∀ p ∈ [(I, oI)] ++ nw, @Ne Nat p.1 l := fun p hp => by
  cases hp with
  | head => exact Ne.symm (off _ (.head _))
  | tail _ hp => exact hl p hp
theorem off_head {l I : Addr} {o o' : Obj} {nw : List (Addr × Obj)} (h : ∀ p ∈ (l, o) :: nw, @Ne Nat p.1 I) : ∀ p ∈ (l, o') :: nw, @Ne Nat p.1 I := fun p hp => by
  cases hp with
  | head => exact h (l, o) (.head _)
  | tail _ hp => exact h p (.tail _ hp)
theorem zero_hi (n : Nat) (i : Nat) (h : (((n - n % 2 ^ i : Nat) : Int) != 0) = false) : n - n % 2 ^ i = 0 := Int.ofNat.inj (bne_eq_false_iff_eq.mp h)
theorem z_pretty (n : Nat) (nw : List (Addr × Obj)) (h1 : n < 4096) (vs : List Value) (hv : ∃ v, vs = [v] ∧ IsI n v) : Dz 1 29 vs nw (fun r tl => IsS (pretty n) r ∧ tl = []) := by
  obtain ⟨v, e, t, e1⟩ := hv
  subst e e1
  have kfill : Mine.trow = Mine.trow ∧ hd0183.heap_39 = hd0183.heap_39 := by k_fill; exact ⟨rfl, rfl⟩
  refine' Mine.enter (binds := [(Str.ofString "flags", .int ((n : Nat) : Int) t)]) ?ka ?kb ?kc ?kd ?ke ?kf ?kg ?kh ?_; (case ka => intro w; k_is); (case kb => intro w; k_is); (case kc => first | exact fun _ _ _ => BindsTo.of_eq rfl | exact fun w s hX => binds_K hX rfl (by k_is) rfl rfl rfl); (case kd => exact locs rfl); (case ke => exact rfl); (case kf => exact rfl); (case kg => exact rfl); (case kh => decide)
  clear kfill
  intro c s h tk m R O C ha hR
  refine go_asgN (hL := by rfl) (hl := by rfl) (hp := by rfl) (hs := by rfl) C (.list .nil fun vs e => by subst e; decide) fun v tl m1 h1' tk1 hv o C1 en kp => ?_
  obtain ⟨l, vs, e, e1, e2⟩ := hv
  subst e e1 e2
  have ef := kp (Str.ofString "flags") _ (by decide) (ha _ _ rfl)
  have off0 : ∀ p ∈ nw, @Ne Nat p.1 l := fun p hp => o p hp _ (.head _)
  refine go_forS (hL := by rfl) (hx := by rfl) (hp := by rfl) (hs := by intro _; rfl) O (PInv n l nw) (POut n nw) C1 (src_range (hk := by rfl) (hx := by rfl) (hg := by rfl) (hb := by rfl) (he := by rfl) (hs := by rfl) (n := 32) O g_range .int (by decide) (by rfl)) (fun _ _ _ _ => trivial) (PInv.mk (i := 0) (show StrsAre [] ((bitsTo n 0).map nameOf) from .nil) ef ⟨t, by rw [Nat.pow_zero, Nat.mod_one, Nat.sub_zero]⟩ en fun h => Nat.pos_of_ne_zero h) (fun I i v m2 nw2 oI h2 tk2 R' hi hv hJ off C2 hN hB => ?_) (fun m2 nw2 h2 tk2 R' hJ C2 hN => ?_) fun m2 nw2 h2 tk2 hK C2 => ?_
  · cases hJ with
    | @mk vs nn v0 hvs hf hf2 hn hp =>
    have hvl : vs.length ≤ sizeLine := Nat.le_trans (Nat.le_of_eq (hvs.length.trans (List.length_map ..))) (Nat.le_trans (bitsTo_length n i) (Nat.le_trans (Nat.le_of_lt hi) (by decide)))
    refine go_asg (hL := by rfl) (hl := by rfl) (hp := by rfl) (hs := by rfl) C2 (.bin (op_shl (Int.natCast_nonneg i) (Int.ofNat_le.mpr (Nat.le_trans (Nat.le_of_lt hi) (by decide))) (by decide)) .int (.loc (hL := by rfl) (hk := by rfl) (hl := by rfl) (hd := by decide) (if_pos rfl) (ix_z hv))) fun v3 m3 h3 tk3 hg C3 eg kp => ?_
    have hf := kp _ _ (by decide) ((if_neg (by decide)).trans hf)
    have hn := kp _ _ (by decide) ((if_neg (by decide)).trans hn)
    rw [shl_i] at hg
    refine go_ite C3 (.as (.val (he := by rfl) truth_int (.bin op_and (.loc (hL := by rfl) (hk := by rfl) (hl := by rfl) (hd := by decide) hf hf2) (.loc (hL := by rfl) (hk := by rfl) (hl := by rfl) (hd := by decide) eg hg))) (and_ne n i)) (fun h4 tk4 C4 hb => ?_) fun h4 tk4 C4 hb => ?_
    · refine go_app (he := by rfl) (hst := by rfl) (hi := by rfl) (hs := by rfl) (pre := [(I, oI)]) (P := IsS (nameOf i)) C4 (.loc (hL := by rfl) (hk := by rfl) (hl := by rfl) (hd := by decide) hn rfl) (.methG (he := by rfl) (hs := by rfl) (hp := by rfl) (fun _ s h tk Q E v C e q => by subst e; exact KTD.getMethod_keyed (kt_keyed_in (a := 22) (D := flagTab) O.X (by kernel_rfl)) C.F.keep q) (fun v us e hus => ?_) (.glob (hk := by rfl) (hx := by rfl) (hg := by rfl) (hd := by decide) O (v := .ref 22) (by kernel_rfl)) (.two (hs := by rfl) (hs' := by rfl) (.loc (hL := by rfl) (hk := by rfl) (hl := by rfl) (hd := by decide) eg hg) (.bi (hk := by rfl) (hx := by rfl) (hg := by rfl) (hb := by rfl) (hd := by decide) (he := by rfl) (hs := by rfl) (hp := by rfl) O g_hex (bz_hex (Nat.le_trans (hex_small i hi) (by decide))) (.one (hs := by rfl) (.loc (hL := by rfl) (hk := by rfl) (hl := by rfl) (hd := by decide) eg hg))))) (off_I off off0) hvl fun v5 h5 tk5 hv5 C5 => ?_
      · obtain ⟨u1, u2, e', ⟨t1, e1⟩, t2, e2⟩ := hus
        subst e e' e1 e2
        exact fun s h tk Q C kq E => get_flag O.X C.F (bit_lt h1 hb) fun t => kq _ h _ C ⟨t, rfl⟩
      · obtain ⟨t5, e5⟩ := hv5
        subst e5
        refine go_aug (hL := by rfl) (hl := by rfl) (hp := by rfl) (hk := by rfl) C5 hf hf2 iop_xor (.loc (hL := by rfl) (hk := by rfl) (hl := by rfl) (hd := by decide) eg hg) fun v6 m6 h6 tk6 hf6 C6 ef kp => ?_
        have hn := kp _ _ (by decide) hn
        rw [xor_hi hb] at hf6
        refine go_ite C6 (.not (.val (he := by rfl) truth_int (.loc (hL := by rfl) (hk := by rfl) (hl := by rfl) (hd := by decide) ef hf6))) (fun h7 tk7 C7 hz => ?_) fun h7 tk7 C7 hz => ?_
        · exact go_brk (hB _ _ _ _ C7.drop (.mk (wordsOf_of (bit_lt h1 hb) (zero_hi n _ (Bool.not_eq_true' _ ▸ hz)) (fun h0 => by subst h0; simp at hb) ▸ snoc_bits hb hvs _) hn))
        · exact go_nil (Then.end (Then.end (hN _ _ _ _ C7 (off_head off) (.mk (snoc_bits hb hvs _) ef hf6 hn fun _ => ge_of_hi fun e => by rw [e] at hz; exact Bool.noConfusion hz))))
    · have hb' : ¬ n.testBit i = true := by rw [hb]; exact Bool.false_ne_true
      exact go_nil (Then.end (hN _ _ _ _ C4 off (.mk (by rw [bitsTo_succ, if_neg hb', List.append_nil]; exact hvs) hf (by rw [hi_off hb']; exact hf2) hn (pos_of_off hp hb'))))
  · cases hJ with
    | @mk vs nn v0 hvs hf hf2 hn hp =>
    have hn0 : n = 0 := Decidable.byContradiction fun h0 => absurd (Nat.lt_of_le_of_lt (hp h0) h1) (by decide)
    subst hn0
    have hvs' : vs = [] := List.eq_nil_of_length_eq_zero hvs.length
    subst hvs'
    replace hf2 : IsI 0 v0 := hf2
    refine go_app (he := by rfl) (hst := by rfl) (hi := by rfl) (hs := by rfl) (pre := []) C2 (.loc (hL := by rfl) (hk := by rfl) (hl := by rfl) (hd := by decide) hn rfl) (.bi (hk := by rfl) (hx := by rfl) (hg := by rfl) (hb := by rfl) (hd := by decide) (he := by rfl) (hs := by rfl) (hp := by rfl) O g_hex (bz_hex (by decide +kernel)) (.one (hs := by rfl) (.loc (hL := by rfl) (hk := by rfl) (hl := by rfl) (hd := by decide) hf hf2))) off0 (by decide) fun v5 h5 tk5 hv5 C5 => ?_
    obtain ⟨t5, e5⟩ := hv5
    subst e5
    exact go_nil (hN _ _ _ _ C5 (.mk (wordsOf0 _) hn))
  · cases hK with
    | mk hvs hn =>
    exact go_ret C2 (.join (he := by rfl) (hst := by rfl) ⟨_, .head _⟩ hvs (by decide) (weight_words n) .str (.loc (hL := by rfl) (hk := by rfl) (hl := by rfl) (hd := by decide) hn rfl)) fun v h3 tk3 hv C3 => hR v [] h3 tk3 _ _ C3 (fun p hp => .tail _ hp) no_ord ⟨hv, rfl⟩
end Mine

namespace Mine
open StrLaws Builtin Builtin.Str
noncomputable abbrev L (x : Str) : List Nat := x.cps.toList
theorem ext_L {a b : Str} (h : L a = L b) : a = b := Str.ext' (Array.toList_inj.mp h)
theorem L_append (a b : Str) : L (a ++ b) = L a ++ L b := by show (a ++ b).cps.toList = _; rw [Str.cps_append, Array.toList_append]
theorem len_L (x : Str) : x.length = (L x).length := by simp [Str.length, L]
theorem L_sub (x : Str) (a b : Nat) : L (strSub x a b) = ((L x).drop a).take (b - a) := strSub_toList x a b
theorem at_iff {x y : Str} {k : Nat} : At x y x.length k ↔ k + (L y).length ≤ (L x).length ∧ ((L x).drop k).take (L y).length = L y := by
  unfold At
  rw [subAt_eq, len_L x, len_L y]
  simp [L]
theorem at_head {x y : Str} {k c : Nat} {t : List Nat} (hy : L y = c :: t) (h : At x y x.length k) : (L x)[k]? = some c := by
  rw [at_iff, hy] at h
  have := congrArg (·[0]?) h.2
  simpa [List.getElem?_take, List.getElem?_drop] using this
theorem L_join_cons (y w v : Str) (r : List Str) : L (Str.join y (w :: v :: r)) = L w ++ (L y ++ L (Str.join y (v :: r))) := by
  rw [join_cons_cons, L_append, L_append, List.append_assoc]
theorem head_free {x y w : Str} {r : List Nat} {c a d : Nat} {t : List Nat} (hy : L y = c :: t) (hfree : c ∉ L w) (h : At x y x.length d) (had : a ≤ d) (hx : (L x).drop a = L w ++ r) (hd : d < a + (L w).length) : False := by
  have h1 := at_head hy h
  rw [← Nat.add_sub_cancel' had, ← List.getElem?_drop, hx, List.getElem?_append_left (Nat.sub_lt_left_of_lt_add had hd)] at h1
  exact hfree (List.mem_of_getElem? h1)
theorem parts_of {x y : Str} {c : Nat} {t : List Nat} (hy : L y = c :: t) : ∀ (ws : List Str), ws ≠ [] → (∀ w ∈ ws, c ∉ L w) → ∀ (a : Nat) (cuts : List Nat) (f : Nat), ChainG x y x.length a cuts f → (∀ k, f ≤ k → ¬ At x y x.length k) →
    a ≤ (L x).length → (L x).drop a = L (Str.join y ws) → partsFrom x y.length a cuts = ws
  | [], h, _, _, _, _, _, _, _, _ => absurd rfl h
  | [w], _, hfree, a, cuts, f, hG, hn, ha, hx => by
    have hw : (L x).drop a = L w ++ [] := hx.trans (List.append_nil _).symm
    cases cuts with
    | nil =>
      refine congrArg (fun z => [z]) (ext_L (a := strSub x a x.length) ?_)
      rw [L_sub, len_L x, ← List.length_drop, List.take_length]
      exact hx
    | cons d r =>
      refine (head_free hy (hfree w (.head _)) hG.2.1 hG.1 hw ?_).elim
      have h1 := (List.getElem?_eq_some_iff.mp (at_head hy hG.2.1)).1
      rw [← List.append_nil (L w), ← hw, List.length_drop, Nat.add_sub_cancel' ha]
      exact h1
  | w :: v :: ws, _, hfree, a, cuts, f, hG, hn, ha, hx => by
    rw [L_join_cons] at hx
    have hlen : (L x).length = a + (L w).length + ((L y).length + (L (Str.join y (v :: ws))).length) := by
      rw [← List.length_append, Nat.add_assoc, ← List.length_append, ← hx, List.length_drop, Nat.add_sub_cancel' ha]
    have hle : a + (L w).length + (L y).length ≤ (L x).length := by
      rw [hlen]
      exact Nat.add_le_add_left (Nat.le_add_right _ _) _
    have hA : At x y x.length (a + (L w).length) := by
      rw [at_iff]
      exact ⟨hle, by rw [← List.drop_drop, hx, List.drop_left, List.take_left]⟩
    cases cuts with
    | nil => exact absurd hA (hn _ ((show f = a from hG) ▸ Nat.le_add_right _ _))
    | cons d r =>
      have hd : d = a + (L w).length := Nat.le_antisymm (Nat.not_lt.mp fun hl => hG.2.2.1 _ (Nat.le_add_right _ _) hl hA) (Nat.not_lt.mp fun hl => head_free hy (hfree w (.head _)) hG.2.1 hG.1 hx hl)
      subst hd
      show strSub x a (a + (L w).length) :: partsFrom x y.length (a + (L w).length + y.length) r = w :: v :: ws
      rw [parts_of hy (v :: ws) (List.cons_ne_nil _ _) (fun z hz => hfree z (.tail _ hz)) _ r f hG.2.2.2 hn (by rw [len_L y]; exact hle) ?_]
      · refine congrArg (· :: v :: ws) (ext_L ?_)
        rw [L_sub, hx, Nat.add_sub_cancel_left, List.take_left]
      · rw [len_L y, Nat.add_assoc, ← List.drop_drop, hx, ← List.append_assoc, ← List.length_append, List.drop_left]
theorem kind_pos (x : Str) : 1 ≤ Builtin.Str.strKind x := by
  unfold Builtin.Str.strKind
  split
  · exact Nat.le_refl 1
  · split <;> decide
theorem split_joined {y : Str} {c : Nat} {t : List Nat} (hy : L y = c :: t) (hk : Builtin.Str.strKind y = 1) {ws : List Str} (hne : ws ≠ []) (hfree : ∀ w ∈ ws, c ∉ L w) : PySem.Txt.split (Str.join y ws) y = ws := by
  obtain ⟨f, hG, hn⟩ := occ_tight (Str.join y ws) y (by rw [len_L, hy]; exact Nat.le_add_left 1 _)
  have key := parts_of hy ws hne hfree 0 _ f hG hn (Nat.zero_le _) rfl
  unfold PySem.Txt.split
  split
  · rename_i hc
    rw [Bool.or_eq_true, decide_eq_true_eq, decide_eq_true_eq] at hc
    cases hc with
    | inl h =>
      match ws, hne with
      | [w], _ => rfl
      | w :: v :: r, _ =>
        rw [len_L, len_L, L_join_cons, List.length_append, List.length_append] at h
        exact absurd h (Nat.not_lt.mpr (Nat.le_trans (Nat.le_add_right _ _) (Nat.le_add_left _ _)))
    | inr h => exact absurd h (Nat.not_lt.mpr (hk ▸ kind_pos _))
  · split
    · rename_i he
      rw [show occurrences (Str.join y ws) y 0 (Str.join y ws).length ((Str.join y ws).length + 1) = [] from List.isEmpty_iff.mp he] at key
      exact (congrArg (fun z => [z]) (sub_whole (Str.join y ws)).symm).trans key
    · rw [partsBetween_eq]
      exact key
end Mine

namespace Mine
open StrLaws Builtin Builtin.Str
noncomputable def Good (w : Str) : Prop := L w ≠ [] ∧ 47 ∉ L w ∧ 44 ∉ L w ∧ L w ≠ [46] ∧ w.length ≤ 18
theorem good_name : ∀ k, k < 12 → Good (nameOf k) := by unfold Good; decide +kernel
theorem good_words (n : Nat) : ∀ w ∈ wordsOf n, Good w := by
  intro w hw
  unfold wordsOf at hw
  split at hw
  · rw [List.mem_singleton.mp hw]
    unfold Good
    decide +kernel
  · obtain ⟨k, hk, e⟩ := List.mem_map.mp hw
    exact e ▸ good_name k (List.mem_range.mp (List.mem_filter.mp hk).1)
theorem L_slash : L slash = [47] := by decide +kernel
theorem L_comma : L (Str.ofString ", ") = [44, 32] := by decide +kernel
theorem words_ne {n : Nat} (h : n < 4096) : wordsOf n ≠ [] := by
  unfold wordsOf
  split
  · exact List.cons_ne_nil _ _
  · rename_i h0
    intro e
    obtain ⟨k, hk⟩ := Nat.exists_testBit_of_ne_zero h0
    have hm : k ∈ bitsTo n 12 := List.mem_filter.mpr ⟨List.mem_range.mpr (bit_lt h hk), hk⟩
    rw [List.map_eq_nil_iff.mp e] at hm
    cases hm
theorem words_len (n : Nat) : (wordsOf n).length ≤ 12 := by
  unfold wordsOf
  split
  · decide
  · rw [List.length_map]; exact bitsTo_length n 12
theorem pretty_split {n : Nat} (h : n < 4096) : PySem.Txt.split (pretty n) (Str.ofString ", ") = wordsOf n := by
  unfold pretty
  rw [show PySem.Txt.join (Str.ofString ", ") (wordsOf n) = Str.join (Str.ofString ", ") (wordsOf n) from glued_eq_join _ _]
  exact split_joined L_comma (by decide +kernel) (words_ne h) fun w hw => (good_words n w hw).2.2.1
noncomputable def wayOf (ws : List Str) : Str := slash ++ PySem.Txt.join slash ws
theorem wayOf_eq (ws : List Str) : wayOf ws = slash ++ Str.join slash ws := by unfold wayOf; rw [show PySem.Txt.join slash ws = Str.join slash ws from glued_eq_join _ _]
theorem wayOf_cons (ws : List Str) (h : ws ≠ []) : wayOf ws = Str.join slash (Str.empty :: ws) := by
  rw [wayOf_eq]
  cases ws with
  | nil => exact absurd rfl h
  | cons w r => rw [join_cons_cons, Str.empty_append]
theorem wayOf_nil : wayOf [] = slash := by rw [wayOf_eq]; exact Str.append_empty _
theorem wayOf_snoc (ws : List Str) (w : Str) : L (wayOf (ws ++ [w])) = if ws = [] then 47 :: L w else L (wayOf ws) ++ 47 :: L w := by
  rw [wayOf_eq, wayOf_eq, PyProof.Rows.FinIter.join_snoc]
  split
  · rw [L_append, L_slash]; rfl
  · rw [L_append, L_append, L_append, L_append, L_slash]; simp
theorem way_split {ws : List Str} (hne : ws ≠ []) (hg : ∀ w ∈ ws, Good w) : PySem.Txt.split (wayOf ws) slash = Str.empty :: ws := by
  rw [wayOf_cons ws hne]
  refine split_joined L_slash (by decide +kernel) (by simp) fun w hw => ?_
  rcases List.mem_cons.mp hw with rfl | hw
  · simp [L, Str.empty]
  · exact (hg w hw).2.1
theorem endswith_slash (x : Str) (p : List Nat) (c : Nat) (h : L x = p ++ [c]) : PySem.Txt.endswith x slash = (c == 47) := by
  unfold PySem.Txt.endswith
  rw [subAt_eq, len_L x, len_L slash, h, L_slash]
  show (decide _ && (List.take [47].length (List.drop _ (L x)) == L slash)) = _
  rw [h, L_slash]
  simp
theorem startswith_good {w : Str} (h : Good w) : PySem.Txt.startswith w slash = false := by
  unfold PySem.Txt.startswith
  rw [subAt_eq, len_L slash, L_slash]
  show (decide _ && (List.take [47].length (List.drop 0 (L w)) == L slash)) = _
  rw [L_slash]
  cases e : L w with
  | nil => simp
  | cons a r =>
    have : a ≠ 47 := fun q => h.2.1 (by rw [e, q]; exact .head _)
    simp [this]
theorem last_of_good {w : Str} (h : Good w) : ∃ p c, L w = p ++ [c] ∧ c ≠ 47 := by
  obtain ⟨h1, h2, _⟩ := h
  refine ⟨(L w).dropLast, (L w).getLast h1, (List.dropLast_concat_getLast h1).symm, fun e => h2 ?_⟩
  rw [← e]; exact List.getLast_mem h1
theorem way_last {ws : List Str} (hne : ws ≠ []) (hg : ∀ w ∈ ws, Good w) : ∃ p c, L (wayOf ws) = p ++ [c] ∧ c ≠ 47 := by
  obtain ⟨r, w, rfl⟩ : ∃ r w, ws = r ++ [w] := ⟨ws.dropLast, ws.getLast hne, (List.dropLast_concat_getLast hne).symm⟩
  obtain ⟨p, c, e, hc⟩ := last_of_good (hg w (by simp))
  rw [wayOf_snoc, e]
  split
  · exact ⟨47 :: p, c, by simp, hc⟩
  · exact ⟨L (wayOf r) ++ 47 :: p, c, by simp, hc⟩
theorem joined_way {ws : List Str} {w : Str} (hg : ∀ v ∈ ws, Good v) : joined (wayOf ws) w = wayOf (ws ++ [w]) := by
  apply ext_L
  rw [wayOf_snoc]
  unfold joined
  by_cases h : ws = []
  · subst h
    rw [wayOf_nil, if_pos (by decide +kernel), if_pos rfl, L_append, L_slash]; rfl
  · obtain ⟨p, c, e, hc⟩ := way_last h hg
    rw [if_neg (by rw [endswith_slash _ p c e]; simpa using hc), if_neg h, L_append, L_append, L_slash]; rfl
theorem join_18 {y : Str} {k : Nat} (hy : y.length = k) {ws : List Str} (hg : ∀ v ∈ ws, Good v) (hl : ws.length ≤ 12) : (Str.join y ws).length ≤ 216 + 12 * k :=
  Nat.le_trans (join_length_le y ws) (hy ▸ Nat.add_le_add (Nat.le_trans (weight_of fun y hy => (hg y hy).2.2.2.2) (Nat.mul_le_mul_left 18 hl)) (Nat.mul_le_mul_right _ hl))
theorem way_len {ws : List Str} (hg : ∀ v ∈ ws, Good v) (hl : ws.length ≤ 12) : (wayOf ws).length ≤ 250 ∧ 0 < (wayOf ws).length := by
  have h : slash.length = 1 := by decide +kernel
  rw [wayOf_eq, Str.length_append, h, Nat.add_comm]
  exact ⟨Nat.le_trans (Nat.succ_le_succ (join_18 h hg hl)) (by decide), Nat.succ_pos _⟩
theorem rfind_last {x : Str} {p q : List Nat} (h : L x = p ++ 47 :: q) (hq : 47 ∉ q) : PySem.Txt.rfind x slash = (p.length : Int) := by
  unfold PySem.Txt.rfind
  have hA : At x slash x.length p.length := by
    rw [at_iff, h, L_slash]
    simp
  cases last_spec x slash with
  | inl hn => exact absurd hA (hn.2 _)
  | inr hn =>
    obtain ⟨i, e, hi, hn⟩ := hn
    rw [e]
    have h2 : p.length ≤ i := Nat.not_lt.mp fun hl => hn _ hl hA
    have h1 := at_head L_slash hi
    rw [h, List.getElem?_append_right h2] at h1
    cases h3 : i - p.length with
    | zero => exact congrArg Nat.cast (Nat.le_antisymm (Nat.le_of_sub_eq_zero h3) h2)
    | succ j =>
      rw [h3, List.getElem?_cons_succ] at h1
      exact absurd (List.mem_of_getElem? h1) hq
theorem len_cut {x : Str} {p q : List Nat} (h : L x = p ++ 47 :: q) : (L x).length = p.length + 1 + q.length := by
  rw [h, List.length_append, List.length_cons, Nat.add_assoc, Nat.add_comm 1]
theorem cut_in {x : Str} {p q : List Nat} (h : L x = p ++ 47 :: q) : 0 ≤ (p.length : Int) + 1 ∧ (p.length : Int) + 1 ≤ ((L x).length : Int) :=
  ⟨Int.natCast_nonneg (p.length + 1), len_cut h ▸ Int.ofNat_le.mpr (Nat.le_add_right (p.length + 1) q.length)⟩
theorem slice_eq (x : Str) (l u : Option Int) : PySem.Txt.slice x l u = sliceText x l u := rfl
theorem cutHead_L {x : Str} {p q : List Nat} (h : L x = p ++ 47 :: q) (hq : 47 ∉ q) : L (cutHead x) = p ++ [47] := by
  unfold cutHead
  rw [rfind_last h hq, slice_eq, sliceText_to]
  · show List.take (p.length + 1) (List.drop 0 (L x)) = _
    rw [h, List.drop_zero, List.append_cons]
    exact List.take_left' List.length_append
  · exact cut_in h
theorem cutTail_L {x : Str} {p q : List Nat} (h : L x = p ++ 47 :: q) (hq : 47 ∉ q) : L (cutTail x) = q := by
  unfold cutTail
  rw [rfind_last h hq, slice_eq, sliceText_from]
  · show List.take (((L x).length : Int) - ((p.length + 1 : Nat) : Int)).toNat (List.drop (p.length + 1) (L x)) = _
    rw [Int.toNat_sub, len_cut h, Nat.add_sub_cancel_left, h, List.append_cons, show List.drop (p.length + 1) (p ++ [47] ++ q) = q from List.drop_left' List.length_append, List.take_length]
  · exact cut_in h
theorem mul_47 (n : Int) : ∀ d ∈ L (PySem.Txt.mul slash n), d = 47 := by
  intro d hd
  unfold PySem.Txt.mul at hd
  split at hd
  · cases hd
  · split at hd
    · rw [L_slash] at hd; exact List.mem_singleton.mp hd
    · have go : ∀ (k : Nat) (acc : Array Nat), (∀ d ∈ acc.toList, d = 47) → ∀ d ∈ ((List.replicate k slash.cps).foldl (· ++ ·) acc).toList, d = 47 := by
        intro k
        induction k with
        | zero => exact fun acc h => h
        | succ k ih =>
          intro acc h
          refine ih _ fun d hd => ?_
          rw [Array.toList_append] at hd
          exact (List.mem_append.mp hd).elim (h d) fun hd => List.mem_singleton.mp (L_slash ▸ hd)
      exact go _ #[] (fun _ h => nomatch h) d hd
theorem splitHead_of {x : Str} {p q : List Nat} {c : Nat} (h : L x = (p ++ [c]) ++ 47 :: q) (hq : 47 ∉ q) (hc : c ≠ 47) : L (splitHead x) = p ++ [c] := by
  have e := cutHead_L h hq
  unfold splitHead
  rw [if_pos]
  · unfold PySem.Txt.rstripChars
    rw [PyProof.Rows.stripBy_eq, L_sub]
    show List.take (stripHi _ true (cutHead x) 0 - 0) (List.drop 0 (L (cutHead x))) = _
    unfold stripHi
    rw [if_pos rfl, len_L]
    show List.take ((L (cutHead x)).length - (List.takeWhile _ (List.drop 0 (L (cutHead x))).reverse).length - 0) _ = _
    have h1 : slash.cps.contains 47 = true := by decide +kernel
    have h2 : slash.cps.contains c = false := by
      rw [show slash.cps = #[47] from Array.toList_inj.mp L_slash]
      simp
      exact fun q => hc q
    rw [e, List.drop_zero, List.reverse_append, List.reverse_append]
    generalize slash.cps.contains = goes at *
    show List.take (_ - (List.takeWhile goes (47 :: c :: p.reverse)).length - 0) _ = _
    rw [List.takeWhile_cons_of_pos h1, List.takeWhile_cons_of_neg (by rw [h2]; exact Bool.false_ne_true), List.length_append]
    exact List.take_left
  · refine ⟨?_, ?_⟩
    · rw [len_L, e, List.length_append]
      exact Int.ofNat_ne_zero.mpr (Nat.succ_ne_zero _)
    · rw [bne_iff_ne]
      intro q
      exact hc (mul_47 _ c (q ▸ e ▸ List.mem_append_left _ (List.mem_append_right _ (.head _))))
theorem splitHead_root {x : Str} {q : List Nat} (h : L x = 47 :: q) (hq : 47 ∉ q) : splitHead x = slash := by
  have e : cutHead x = slash := ext_L ((cutHead_L (p := []) h hq).trans L_slash.symm)
  unfold splitHead
  rw [e, if_neg]
  intro hh
  exact absurd hh.2 (by decide +kernel)
theorem split_way {ws : List Str} {w : Str} (hg : ∀ v ∈ ws ++ [w], Good v) : splitHead (wayOf (ws ++ [w])) = wayOf ws ∧ cutTail (wayOf (ws ++ [w])) = w := by
  have hw := hg w (by simp)
  have e := wayOf_snoc ws w
  by_cases h : ws = []
  · subst h
    rw [if_pos rfl] at e
    exact ⟨(splitHead_root e hw.2.1).trans wayOf_nil.symm, ext_L (cutTail_L (p := []) e hw.2.1)⟩
  · rw [if_neg h] at e
    obtain ⟨p, c, ep, hc⟩ := way_last h fun v hv => hg v (List.mem_append_left _ hv)
    refine ⟨ext_L ?_, ext_L (cutTail_L e hw.2.1)⟩
    rw [ep] at e ⊢
    exact splitHead_of e hw.2.1 hc
theorem pretty_len (n : Nat) : (pretty n).length ≤ 250 := by
  unfold pretty
  rw [show PySem.Txt.join (Str.ofString ", ") (wordsOf n) = Str.join (Str.ofString ", ") (wordsOf n) from glued_eq_join _ _]
  exact Nat.le_trans (join_18 (k := 2) (by decide +kernel) (good_words n) (words_len n)) (by decide)
end Mine

namespace Mine
theorem d_pretty : Gd (Str.ofString "pretty_flags") 29 := fun _ => ⟨by kernel_rfl, by kernel_rfl⟩
theorem d_join : Gd (Str.ofString "join") 153 := fun _ => ⟨by kernel_rfl, by kernel_rfl⟩
inductive WInv (n : Nat) (l : Addr × Obj) (nw : List (Addr × Obj)) : Nat → (Str → Option Value) → List (Addr × Obj) → Prop
  | mk {i m v} (hp : m (Str.ofString "way") = some v) (h1 : IsS (wayOf ((wordsOf n).take i)) v) : WInv n l nw i m (l :: nw)
theorem way_next {n i : Nat} {y : Str} (hy : (wordsOf n)[i]? = some y) : joined (wayOf ((wordsOf n).take i)) y = wayOf ((wordsOf n).take (i + 1)) := by
  rw [show (wordsOf n).take (i + 1) = (wordsOf n).take i ++ [y] by rw [List.take_add_one, hy]; rfl]
  exact joined_way fun v hv => good_words n v (List.mem_of_mem_take hv)
theorem way_small (n i : Nat) : (wayOf ((wordsOf n).take i)).length ≤ 250 ∧ 0 < (wayOf ((wordsOf n).take i)).length := way_len (fun v hv => good_words n v (List.mem_of_mem_take hv)) (Nat.le_trans (by rw [List.length_take]; exact Nat.min_le_right _ _) (words_len n))
theorem z_way (n : Nat) (nw : List (Addr × Obj)) (h1 : n < 4096) (vs : List Value) (hv : ∃ v, vs = [v] ∧ IsI n v) : Dz 3 203 vs nw (fun r tl => IsS (wayOf (wordsOf n)) r ∧ tl = []) := by
  obtain ⟨v, e, t, e1⟩ := hv
  subst e e1
  have kfill : Mine.trow = Mine.trow ∧ hd0183.heap_39 = hd0183.heap_39 := by k_fill; exact ⟨rfl, rfl⟩
  refine' Mine.enter (binds := [(Str.ofString "number", .int ((n : Nat) : Int) t)]) ?ka ?kb ?kc ?kd ?ke ?kf ?kg ?kh ?_; (case ka => intro w; k_is); (case kb => intro w; k_is); (case kc => first | exact fun _ _ _ => BindsTo.of_eq rfl | exact fun w s hX => binds_K hX rfl (by k_is) rfl rfl rfl); (case kd => exact locs rfl); (case ke => exact rfl); (case kf => exact rfl); (case kg => exact rfl); (case kh => decide)
  clear kfill
  intro c s h tk m R O C ha hR
  refine go_asg (hL := by rfl) (hl := by rfl) (hp := by rfl) (hs := by rfl) C .str fun v m1 h1' tk1 hv C1 ew kp => ?_
  have ef := kp (Str.ofString "number") _ (by decide) (ha _ _ rfl)
  refine go_forN (hL := by rfl) (hx := by rfl) (hp := by rfl) (hs := by intro _; rfl) (k := 2) (T := fun vs => StrsAre vs (wordsOf n)) O C1 (pretty_split h1 ▸ EvN.split (he := by rfl) (hst := by rfl) (by decide +kernel) (Nat.le_trans (Nat.add_le_add_right (pretty_len n) 2) (by decide)) (.of (.def (hk := by rfl) (hx := by rfl) (hg := by rfl) (hd := by decide) (he := by rfl) (hs := by rfl) (hp := by rfl) (O.le (by decide)) d_pretty (.one (hs := by rfl) (.loc (hL := by rfl) (hk := by rfl) (hl := by rfl) (hd := by decide) ef ⟨t, rfl⟩)) (z_pretty n nw h1))) .str) (fun _ l => WInv n l nw) (fun l m' nw' => nw' = l :: nw ∧ ∃ v, m' (Str.ofString "way") = some v ∧ IsS (wayOf (wordsOf n)) v) (fun vs l i m' nw' hJ => by cases hJ; exact .head _) (fun _ _ _ => .mk ew hv) (fun vs l I i v m2 nw2 oI h2 tk2 R' hT hi hv hJ off C2 hN hB => ?_) (fun vs l m2 nw2 h2 tk2 R' hT hJ C2 hN => ?_) fun l m2 nw2 h2 tk2 hK C2 => ?_
  · cases hJ with
    | mk hp hw =>
    obtain ⟨y, ty, e, hy⟩ := hT.item i v hv
    have hgy := good_words n y (List.mem_of_getElem? hy)
    obtain ⟨x1, x2⟩ := way_small n i
    refine go_asg (hL := by rfl) (hl := by rfl) (hp := by rfl) (hs := by rfl) C2 (.of (.def (hk := by rfl) (hx := by rfl) (hg := by rfl) (hd := by decide) (he := by rfl) (hs := by rfl) (hp := by rfl) O d_join (.two (hs := by rfl) (hs' := by rfl) (.loc (hL := by rfl) (hk := by rfl) (hl := by rfl) (hd := by decide) ((if_neg (by decide)).trans hp) hw) (.loc (hL := by rfl) (hk := by rfl) (hl := by rfl) (hd := by decide) (if_pos rfl) ⟨ty, e⟩)) (z_join _ y _ (Nat.le_trans x1 (by decide)) (Nat.le_trans hgy.2.2.2.2 (by decide)) x2 (startswith_good hgy)))) fun v3 m3 h3 tk3 hv3 C3 ew3 _ => go_nil (hN _ _ _ _ C3 off (.mk ew3 (way_next hy ▸ hv3)))
  · cases hJ with
    | mk hp hw => exact go_nil (hN _ _ _ _ C2 ⟨rfl, _, hp, by rw [hT.length, List.take_length] at hw; exact hw⟩)
  · obtain ⟨e, v, hp, hw⟩ := hK
    subst e
    exact go_ret C2 (.loc (hL := by rfl) (hk := by rfl) (hl := by rfl) (hd := by decide) hp hw) fun v h3 tk3 hv C3 => hR v [] h3 tk3 _ _ C3 (fun p hp => .tail _ hp) no_ord ⟨hv, rfl⟩
end Mine

namespace Mine
section
open LCg
section
variable {c : Cx} {env : Env} {m : Str → Option Value} {nw : List (Addr × Obj)} {pos p ap pf sp : Pos} {kk k : Nat} {e f o a b i : Expr} {es : List Expr}
theorem EvN.def0 {x : Str} {fa : Addr} {R : Value → List (Addr × Obj) → Prop} (O : Ok c k) (g : Gd x fa) (D : Dz k fa [] nw R)
    (hk : env.scope.kind = .function) (hx : env.kindOf x = some .globalImplicit) (hg : env.globals = mainGlobals) (hd : (x == ("__debug__" : Str)) = false)
    (he : eval (.Call (.Name x pf) [] [] pos) env = (do callWith pos (← eval (.Name x pf) env) [] (backTo pos (starEach [] env)) (backToKw pos (keywordEach [] env)))) :
    EvN c env m nw (.Call (.Name x pf) [] [] pos) R := fun s h tk Q C kq E =>
  Call_ (Ev.glob (pos := pf) O (g c.w).1 hk hx hg hd s h tk _ C (fun v h1 tk1 C1 ev => by
    subst ev
    exact callWith_K0 (O.X.keeps C1.F.keep) (g c.w).2 (D c m s h1 tk1 Q O C1 (fun r tl h' tk' C' o hr => kq r tl h' tk' C' o hr) E)) E) he
theorem Evs.str {x : Str} {ts : List Str} (hs : Evs c env m nw es (StrsAre · ts)) :
    Evs c env m nw (.Constant (.str x) kk p :: es) (StrsAre · (x :: ts)) := fun s hh tk pos Q C k E =>
  args_cons (Ev.str s hh tk _ C (fun v h1 tk1 C1 q1z => by obtain ⟨t, e⟩ := q1z; subst e; exact hs s h1 tk1 pos _ C1 (fun r h2 tk2 C2 q => k _ _ _ C2 (.cons _ _ q)) E) E)
theorem Evs.strs0 : Evs c env m nw [] (StrsAre · []) := fun _ _ _ _ _ C k _ => args_nil (k _ _ _ C .nil)
theorem EvN.listL {T : List Value → Prop} (ha : Evs c env m nw es T) (hz : ∀ vs, T vs → vs.length ≤ sizeLine) : EvN c env m nw (.List es pos) (NewL T) := (EvN.list ha hz).mono fun _ _ q2z => by obtain ⟨l, vs, e, e1, h⟩ := q2z; exact ⟨l, vs, 0, e, e1, h⟩
theorem Ev.at {l : Addr} {vs : List Value} {j : Int} {x : Value} (hm : LAt vs nw l) (h0 : 0 ≤ j) (hj : j < 1048576) (hx : vs[j.toNat]? = some x) (ho : Ev c env m nw o (· = .ref l)) (hi : Ev c env m nw i (IsI j))
    (hs : ∀ l k u, subscripted i false (.ref l) (.int k u) = operate [.ref l, .int k u] (getItem (.ref l) (.int k u))) : Ev c env m nw (.Subscript o i pos) (· = x) := fun s h tk Q C kq E =>
  Subscript_ (ho s h tk _ C (fun v h1 tk1 C1 e => hi s h1 tk1 _ C1 (fun u h2 tk2 C2 q3z => by
    obtain ⟨t, e2⟩ := q3z
    subst e e2
    obtain ⟨nn, hm⟩ := hm
    have hl := C2.N.isList hm
    exact tail_any (s := { s with heap := h2, toks := tk2 }) hl.typeIs slot_list_getitem.lookup (wpAny_getItem_list hl h0 (Int.lt_trans hj (by decide)) (by simpa using hx) (kq _ _ _ C2 rfl)) (hs _ _ _)) E) E)
theorem Ev.ints {l : Addr} {vs : List Value} {ns : List Int} {j : Int} (hm : LAt vs nw l) (hn : IntsAre vs ns) (h0 : 0 ≤ j) (hj : j < 1048576) (hl : j.toNat < ns.length) (ho : Ev c env m nw o (· = .ref l)) (hi : Ev c env m nw i (IsI j))
    (hs : ∀ l k u, subscripted i false (.ref l) (.int k u) = operate [.ref l, .int k u] (getItem (.ref l) (.int k u))) : Ev c env m nw (.Subscript o i pos) (IsI (ns.getD j.toNat 0)) := by
  obtain ⟨t, e⟩ := hn.get j.toNat (ns[j.toNat]'hl) (List.getElem?_eq_getElem hl)
  exact (Ev.at hm h0 hj e ho hi hs).mono fun v ev => ⟨t, by rw [ev, List.getD_eq_getElem?_getD, List.getElem?_eq_getElem hl]; rfl⟩
theorem Ev.strs {l : Addr} {vs : List Value} {ts : List Str} {j : Int} {x : Str} (hm : LAt vs nw l) (hn : StrsAre vs ts) (h0 : 0 ≤ j) (hj : j < 1048576) (hx : ts[j.toNat]? = some x) (ho : Ev c env m nw o (· = .ref l)) (hi : Ev c env m nw i (IsI j))
    (hs : ∀ l k u, subscripted i false (.ref l) (.int k u) = operate [.ref l, .int k u] (getItem (.ref l) (.int k u))) : Ev c env m nw (.Subscript o i pos) (IsS x) := by
  obtain ⟨t, e⟩ := hn.get j.toNat x hx
  exact (Ev.at hm h0 hj e ho hi hs).mono fun v ev => ⟨t, ev⟩
theorem EvN.strs {ts : List Str} {j : Int} {x : Str} (h0 : 0 ≤ j) (hj : j < 1048576) (hx : ts[j.toNat]? = some x) (ho : EvN c env m nw o (NewL (StrsAre · ts))) (hi : ∀ tl, Ev c env m (tl ++ nw) i (IsI j))
    (hs : ∀ l k u, subscripted i false (.ref l) (.int k u) = operate [.ref l, .int k u] (getItem (.ref l) (.int k u))) : Ev c env m nw (.Subscript o i pos) (IsS x) := fun s h tk Q C kq E =>
  Subscript_ (ho s h tk _ C (fun v tl h1 tk1 C1 o1 q4z => by obtain ⟨l, vs, nn, e, e1, hT⟩ := q4z; exact hi tl s h1 tk1 _ C1 (fun u h2 tk2 C2 q5z => by
    obtain ⟨t, e2⟩ := q5z
    subst e e2 e1
    have hl := C2.N.isList (.head _)
    obtain ⟨t', hx'⟩ := hT.get j.toNat x hx
    exact tail_any (s := { s with heap := h2, toks := tk2 }) hl.typeIs slot_list_getitem.lookup (wpAny_getItem_list hl h0 (Int.lt_trans hj (by decide)) (by simpa using hx') (kq _ _ _ C2.drop ⟨t', rfl⟩)) (hs _ _ _)) E) E)
theorem bz_lenL {l : Addr} {vs : List Value} {n : Nat} (hm : LAt vs nw l) (hn : vs.length = n) (hz : n ≤ 1048576) (us : List Value) : (∃ v, us = [v] ∧ v = .ref l) → Bz c m nw (.builtin "len") us (IsI n) := fun q6z => by
  obtain ⟨v, e, e1⟩ := q6z
  subst e e1
  intro s h tk Q C kq E
  obtain ⟨nn, hm⟩ := hm
  subst hn
  refine Calls.call_len_list (s := { s with heap := h, toks := tk }) (C.N.isList hm) (Int.lt_of_le_of_lt (Int.ofNat_le.mpr (show vs.toArray.size ≤ 1048576 from hz)) (by decide)) (kq _ _ _ C ⟨_, rfl⟩)
section
variable {elt iter ct : Expr} {x y : Str} {px py spos : Pos} {scope : Scope} {cl : List (Str × Addr)} {n : Nat} {P : Nat → Value → Prop} {S : List (Addr × Obj) → Prop}
theorem EvN.compT {K : Nat → List Value → Prop} (d : Src c env m nw iter n P S) (h0 : K 0 []) (turn : ∀ i v ys I oI C oC D m₂, i < n → P i v → K i ys → NsObj oC m₂ → m₂ x = some v →
      ∃ b, Tv c (compEnvC scope cl C env) m ((I, oI) :: (C, oC) :: (D, lst ys) :: nw) ct b ∧ (b = true → Ev c (compEnvC scope cl C env) m ((I, oI) :: (C, oC) :: (D, lst ys) :: nw) elt (fun y => K (i + 1) (ys ++ [y]))) ∧ (b = false → K (i + 1) ys))
    (hz : n ≤ sizeLine) (hclos : closureFor scope env = pure cl) (hcell : ∀ y ∈ scope.names, y.2 ≠ .cell) (hkind : scope.kind = .function) (hx : scope.names.lookup x = some .local)
    (hnames : ∀ y ∈ scope.names, y.2 = .local → scope.names.lookup y.1 = some .local) (hs : ∀ x, foldedSetIterable iter env x = pure x) : EvN c env m nw (.ListComp elt [⟨.Name x px, iter, [ct], 0⟩] scope pos) (NewL (K n)) := fun s h tk Q C kq E => by
  refine comp_E hclos hkind hnames (d s h tk (fun it s₂ => CompR PR c.w c.A c.h₀ c.L m env (.ListComp elt [⟨.Name x px, iter, [ct], 0⟩] scope pos) scope cl (FinE c.h₀ c.L m s₂ Q) it s₂) C (fun I h' tk' B => comp_test hcell hkind hx hz B K h0 (fun i v ys I oI C oC D m₂ h tk R R₀ hi hv hK hC hx F N h1 h2 => ?_) fun ys hK D h2 tk2 F2 N2 o1 => kq (.ref D) [_] h2 tk2 ⟨F2, N2⟩ (one_ord (off1_mem o1)) ⟨D, ys, _, rfl, rfl, hK⟩) E) hs
  obtain ⟨b, t1, t2, t3⟩ := turn i v ys I oI C oC D m₂ hi hv hK hC hx
  refine t1 s h tk _ ⟨F, N⟩ (fun h' tk' C' => ?_) _
  cases b with
  | true => exact t2 rfl s h' tk' R C' (fun y h3 tk3 C3 k => h1 y h3 tk3 C3.F C3.N k) _
  | false => exact h2 h' tk' C'.F C'.N (t3 rfl)
end
end
end
end Mine

namespace Mine
noncomputable abbrev allNames : List Str := [Str.ofString "OPTIMIZED", Str.ofString "NEWLOCALS", Str.ofString "VARARGS", Str.ofString "VARKEYWORDS", Str.ofString "NESTED", Str.ofString "GENERATOR", Str.ofString "NOFREE", Str.ofString "COROUTINE", Str.ofString "ITERABLE_COROUTINE", Str.ofString "ASYNC_GENERATOR", Str.ofString "0x400", Str.ofString "0x800"]
theorem allNames_get : ∀ i, i < 12 → allNames[i]? = some (nameOf i) := by decide +kernel
theorem d_names : Gd (Str.ofString "_law_names") 179 := fun _ => ⟨by kernel_rfl, by kernel_rfl⟩
theorem z_names (nw : List (Addr × Obj)) : Dz 1 179 [] nw (NewL (StrsAre · allNames)) := by
  have kfill : Mine.trow = Mine.trow ∧ hd0183.heap_39 = hd0183.heap_39 := by k_fill; exact ⟨rfl, rfl⟩
  refine' Mine.enter (binds := []) ?ka ?kb ?kc ?kd ?ke ?kf ?kg ?kh ?_; (case ka => intro w; k_is); (case kb => intro w; k_is); (case kc => first | exact fun _ _ _ => BindsTo.of_eq rfl | exact fun w s hX => binds_K hX rfl (by k_is) rfl rfl rfl); (case kd => exact locs rfl); (case ke => exact rfl); (case kf => exact rfl); (case kg => exact rfl); (case kh => decide)
  clear kfill
  intro c s h tk m R O C ha hR
  with_reducible refine go_retN (P := NewL (StrsAre · allNames)) C ?_ ?_
  · with_reducible refine .listL ?_ ?_
    · with_reducible exact .str (.str (.str (.str (.str (.str (.str (.str (.str (.str (.str (.str .strs0)))))))))))
    · exact fun vs h => by rw [h.length]; decide
  · exact fun v tl h1 tk1 hv o C1 => hR v tl h1 tk1 _ _ C1 (fun p hp => hp) o hv
theorem bit_val (n i : Nat) : ((n : Int).fdiv ((2 ^ i : Nat) : Int)).fmod 2 = ((n.testBit i).toNat : Int) := by
  rw [Int.fdiv_eq_ediv_of_nonneg _ (Int.natCast_nonneg _), Int.fmod_eq_emod_of_nonneg _ (by decide), Nat.toNat_testBit]
  rfl
section
variable {c : Cx} {env : Env} {m : Str → Option Value} {nw : List (Addr × Obj)} {p1 p2 p3 p4 p5 : Pos} {k1 k2 n i : Nat} {a b : Expr}
theorem Ev.pow2 (hi : i < 12) (hb : Ev c env m nw b (IsI i)) : Ev c env m nw (.BinOp (.Constant (.int 2) k1 p1) .Pow b p2) (IsI ((2 ^ i : Nat) : Int)) :=
  (Ev.bin (op_pow (Int.natCast_nonneg i) (Int.ofNat_le.mpr (Nat.le_trans (Nat.le_of_lt hi) (by decide))) (by decide)) .int hb).mono fun v h => by
    rw [show (2 : Int) ^ (i : Int).toNat = ((2 ^ i : Nat) : Int) from (Int.natCast_pow 2 i).symm] at h
    exact h
theorem Ev.bit (hi : i < 12) (ha : Ev c env m nw a (IsI n)) (hb : Ev c env m nw b (IsI i)) : Ev c env m nw (.BinOp (.BinOp a .FloorDiv (.BinOp (.Constant (.int 2) k1 p1) .Pow b p2) p3) .Mod (.Constant (.int 2) k2 p4) p5) (IsI ((n.testBit i).toNat : Int)) :=
  bit_val n i ▸ .bin (op_mod (by decide)) (.bin (op_fdiv (Int.ne_of_gt (Int.ofNat_lt.mpr (Nat.two_pow_pos i))) (PyProof.noPylong_of_log2 (by rw [Int.natAbs_natCast, Nat.log2_two_pow]; exact Nat.lt_trans hi (by decide)))) ha (.pow2 hi hb)) .int
end
theorem z_words (n : Nat) (nw : List (Addr × Obj)) (h1 : n < 4096) (vs : List Value) (hv : ∃ v, vs = [v] ∧ IsI n v) : Dz 2 184 vs nw (NewL (StrsAre · (wordsOf n))) := by
  obtain ⟨v, e, t, e1⟩ := hv
  subst e e1
  have kfill : Mine.trow = Mine.trow ∧ hd0183.heap_39 = hd0183.heap_39 := by k_fill; exact ⟨rfl, rfl⟩
  refine' Mine.enterC (binds := [(Str.ofString "number", .int ((n : Nat) : Int) t)]) ?ka ?kb ?kc ?kd ?ki ?ke ?kf ?kg ?_; (case ka => intro w; k_is); (case kb => intro w; k_is); (case kc => exact fun _ => BindsTo.of_eq rfl); (case kd => exact rfl); (case ki => decide +kernel); (case ke => exact rfl); (case kf => exact rfl); (case kg => exact rfl)
  clear kfill
  intro c s h tk m cells R O C ha hY hlt hR
  obtain ⟨o1, e1, hd⟩ := hY.one
  subst e1
  refine go_ite C (.cmp (hm := by with_unfolding_all rfl) cmp_eq (.cell (hk := by rfl) (hx := by rfl) (hb := by decide) (P := IsI n) rfl (.head _) hd ⟨t, rfl⟩) .int) (fun h2 tk2 C2 hb => ?_) fun h2 tk2 C2 hb => Then.nil ?_
  · have h0 : n = 0 := Int.ofNat.inj (of_decide_eq_true (by simpa using hb))
    subst h0
    with_reducible refine go_retN (P := NewL (StrsAre · [zeroWord])) C2 ?_ ?_
    · exact .listL (.str .strs0) fun vs h => by rw [h.length]; decide
    · exact fun v tl h3 tk3 hv o C3 => hR v tl h3 tk3 _ _ C3 (fun p hp => (List.mem_append.mp hp).elim (fun hp => List.mem_append_left _ hp) fun hp => List.mem_append_right _ (.tail _ hp)) (fun q hq => o q (.tail _ hq)) hv
  · have h0 : n ≠ 0 := fun h0 => by subst h0; exact Bool.noConfusion hb
    with_reducible refine go_retN (P := NewL (fun ys => StrsAre ys ((bitsTo n 12).map nameOf))) C2 ?_ ?_
    · refine .compT (hcell := by decide) (hkind := by rfl) (hx := by rfl) (hnames := by decide) (hs := by intro _; rfl) (n := 12) (P := fun i => IsI (0 + (i : Int) * 1)) (S := fun _ => True) (cl := [(Str.ofString "number", c.L + 1)]) (K := fun i ys => StrsAre ys ((bitsTo n i).map nameOf)) (src_range (hk := by rfl) (hx := by rfl) (hg := by rfl) (hb := by rfl) (he := by rfl) (hs := by rfl) O g_range .int (by decide) (by rfl)) .nil (fun i v ys I oI C oC D m₂ hi hv hK hC hx => ⟨n.testBit i, ?_, fun hb => ?_, fun hb => ?_⟩) (by decide) (by rfl)
      · exact .as (.cmp (hm := by with_unfolding_all rfl) cmp_eq (.bit hi (.cell (hk := by rfl) (hx := by rfl) (hb := by decide) rfl (.tail _ (.tail _ (.tail _ (.head _)))) hd ⟨t, rfl⟩) (.own (hk := by rfl) (hl := by rfl) (hd := by decide) rfl (.tail _ (.head _)) hC hx (ix_z hv))) .int) (by cases n.testBit i <;> rfl)
      · exact (EvN.strs (hs := by intro _ _ _; with_unfolding_all rfl) (x := nameOf i) (j := (i : Int)) (Int.natCast_nonneg i) (Int.ofNat_lt.mpr (Nat.lt_trans hi (by decide))) (allNames_get i hi) (.def0 (hk := by rfl) (hx := by rfl) (hg := by rfl) (hd := by decide) (he := by rfl) O d_names (z_names _)) fun tl => .own (hk := by rfl) (hl := by rfl) (hd := by decide) rfl (List.mem_append_right _ (.tail _ (.head _))) hC hx (ix_z hv)).mono fun y q1z => by obtain ⟨t, e⟩ := q1z; subst e; exact snoc_bits hb hK t
      · rw [bitsTo_succ, if_neg (by rw [hb]; exact Bool.false_ne_true), List.append_nil]
        exact hK
    · exact fun v tl h3 tk3 hv o C3 => hR v tl h3 tk3 _ _ C3 (fun p hp => (List.mem_append.mp hp).elim (fun hp => List.mem_append_left _ hp) fun hp => List.mem_append_right _ (.tail _ hp)) (fun q hq => o q (.tail _ hq)) ((show wordsOf n = (bitsTo n 12).map nameOf from if_neg h0) ▸ hv)
end Mine

namespace Mine
noncomputable def b64codes : List UInt8 := [65, 66, 67, 68, 69, 70, 71, 72, 73, 74, 75, 76, 77, 78, 79, 80, 81, 82, 83, 84, 85, 86, 87, 88, 89, 90, 97, 98, 99, 100, 101, 102, 103, 104, 105, 106, 107, 108, 109, 110, 111, 112, 113, 114, 115, 116, 117, 118, 119, 120, 121, 122, 48, 49, 50, 51, 52, 53, 54, 55, 56, 57, 43, 47]
noncomputable def sg (k : Int) : Int := ((b64codes.getD k.toNat 0).toNat : Int)
theorem sg_bound (k : Int) : 0 ≤ sg k ∧ sg k < 256 := ⟨Int.natCast_nonneg _, Int.ofNat_lt.mpr (UInt8.toNat_lt _)⟩
noncomputable def encIdx (ns : List Int) : Nat → List Int
  | 0 => []
  | i + 1 => encIdx ns i ++ (if i % 3 = 0 then [ns.getD i 0 / 4] else if i % 3 = 1 then [ns.getD (i - 1) 0 % 4 * 16 + ns.getD i 0 / 16] else [ns.getD (i - 1) 0 % 16 * 4 + ns.getD i 0 / 64, ns.getD i 0 % 64])
noncomputable def pairsTo (ks : List Int) (i : Nat) : List Int := (List.range i).map fun j => ks.getD (2 * j) 0 * 64 + ks.getD (2 * j + 1) 0
theorem encIdx_len (ns : List Int) : ∀ i, (encIdx ns i).length ≤ 2 * i
  | 0 => Nat.le_refl _
  | i + 1 => by
    unfold encIdx
    rw [List.length_append, Nat.mul_succ]
    refine Nat.add_le_add (encIdx_len ns i) ?_
    split
    · exact Nat.le_succ 1
    · split
      · exact Nat.le_succ 1
      · exact Nat.le_refl 2
noncomputable def work (lc d : Int) : Int := Builtin.bitAnd (Builtin.bitOr (lc * 2 ^ Int.toNat 8) d) 65535
theorem and_low (a d : Nat) (h : d < 2 ^ 8) : (a * 2 ^ 8) &&& d = 0 := by
  apply Nat.eq_of_testBit_eq
  intro j
  rw [Nat.testBit_and, Nat.zero_testBit, Nat.mul_comm, Nat.testBit_two_pow_mul]
  by_cases hj : 8 ≤ j
  · rw [Nat.testBit_lt_two_pow (Nat.lt_of_lt_of_le h (Nat.pow_le_pow_right (by decide) hj)), Bool.and_false]
  · rw [decide_eq_false hj]
    rfl
theorem cut (x d p q r : Nat) (hp : 0 < p) (hq : 0 < q) (hd : d < p * q) : (x * (p * q) + d) / p % (q * r) = x % r * q + d / p := by
  rw [Nat.mul_left_comm, Nat.mul_add_div hp, Nat.mod_mul, Nat.mul_comm x q, Nat.mul_add_div hq, Nat.div_eq_of_lt (Nat.div_lt_of_lt_mul hd), Nat.add_zero, Nat.mul_add_mod_self_left, Nat.mod_eq_of_lt (Nat.div_lt_of_lt_mul hd), Nat.add_comm, Nat.mul_comm q]
theorem work_nat (n k : Nat) (hk : k < 256) : work (n : Int) (k : Int) = ((n % 256 * 256 + k : Nat) : Int) := by
  have e : Builtin.bitOr ((n : Int) * 2 ^ Int.toNat 8) k = ((n * (1 * 256) + k : Nat) : Int) := by
    rw [bitOr_and]
    show ((n * 2 ^ 8 : Nat) : Int) + (k : Int) - Builtin.bitAnd ((n * 2 ^ 8 : Nat) : Int) (k : Int) = _
    rw [bitAnd_pp (Int.natCast_nonneg _) (Int.natCast_nonneg _), Int.toNat_natCast, Int.toNat_natCast, and_low n k hk]
    exact Int.sub_zero _
  unfold work
  rw [e, bitAnd_m16]
  have z := cut n k 1 256 256 (by decide) (by decide) hk
  rw [Nat.div_one, Nat.div_one] at z
  exact congrArg Nat.cast (a₁ := (n * (1 * 256) + k) % 65536) z
theorem work_eq {lc d : Int} (h0 : 0 ≤ lc) (hd : 0 ≤ d ∧ d < 256) : ∃ x k : Nat, lc % 256 = (x : Int) ∧ d = (k : Int) ∧ k < 256 ∧ work lc d = ((x * 256 + k : Nat) : Int) ∧ x < 256 := by
  obtain ⟨n, e⟩ := Int.eq_ofNat_of_zero_le h0
  obtain ⟨k, e'⟩ := Int.eq_ofNat_of_zero_le hd.1
  subst e e'
  exact ⟨n % 256, k, rfl, rfl, Int.ofNat_lt.mp hd.2, work_nat n k (Int.ofNat_lt.mp hd.2), Nat.mod_lt _ (by decide)⟩
theorem fdiv_nat (x : Int) (k : Nat) : x.fdiv ((2 : Int) ^ k) = x / 2 ^ k := Int.fdiv_eq_ediv_of_nonneg _ (Int.pow_nonneg (by decide))
section
variable {lc d : Int} (h0 : 0 ≤ lc) (hd : 0 ≤ d ∧ d < 256)
include h0 hd
theorem idx0 : Builtin.bitAnd ((work lc d).fdiv (2 ^ (0 + 8 - 6 : Int).toNat)) 63 = d / 4 := by
  obtain ⟨x, k, ex, e, hk, ew, _⟩ := work_eq h0 hd
  rw [bitAnd_m6, fdiv_nat, ew, e]
  exact congrArg Nat.cast ((cut x k 4 64 1 (by decide) (by decide) hk).trans (by rw [Nat.mod_one, Nat.zero_mul, Nat.zero_add]))
theorem idx1 {y : Int} (hy : lc % 256 = y) : Builtin.bitAnd ((work lc d).fdiv (2 ^ (2 + 8 - 6 : Int).toNat)) 63 = y % 4 * 16 + d / 16 := by
  obtain ⟨x, k, ex, e, hk, ew, _⟩ := work_eq h0 hd
  rw [bitAnd_m6, fdiv_nat, ew, e, ← hy, ex]
  exact congrArg Nat.cast (cut x k 16 16 4 (by decide) (by decide) hk)
theorem idx2 {y : Int} (hy : lc % 256 = y) : Builtin.bitAnd ((work lc d).fdiv (2 ^ (4 + 8 - 6 : Int).toNat)) 63 = y % 16 * 4 + d / 64 := by
  obtain ⟨x, k, ex, e, hk, ew, _⟩ := work_eq h0 hd
  rw [bitAnd_m6, fdiv_nat, ew, e, ← hy, ex]
  exact congrArg Nat.cast (cut x k 64 4 16 (by decide) (by decide) hk)
theorem idx3 : Builtin.bitAnd ((work lc d).fdiv (2 ^ (4 + 8 - 6 - 6 : Int).toNat)) 63 = d % 64 := by
  obtain ⟨x, k, ex, e, hk, ew, _⟩ := work_eq h0 hd
  rw [bitAnd_m6, fdiv_nat, ew, e]
  refine congrArg Nat.cast (a₁ := (x * 256 + k) / 1 % 64) ?_
  rw [Nat.div_one, show x * 256 = 64 * (x * 4) by rw [Nat.mul_left_comm], Nat.mul_add_mod]
  rfl
theorem work_low : work lc d % 256 = d := by
  obtain ⟨x, k, ex, e, hk, ew, _⟩ := work_eq h0 hd
  rw [ew, e]
  exact congrArg Nat.cast (a₁ := (x * 256 + k) % 256) (by rw [Nat.mul_comm, Nat.mul_add_mod, Nat.mod_eq_of_lt hk])
theorem work_bound : 0 ≤ work lc d ∧ work lc d < 65536 := by
  obtain ⟨x, k, ex, e, hk, ew, hx⟩ := work_eq h0 hd
  rw [ew]
  exact ⟨Int.natCast_nonneg _, Int.ofNat_lt.mpr (Nat.lt_of_lt_of_le (Nat.add_lt_add_left hk _) (Nat.succ_mul x 256 ▸ Nat.mul_le_mul_right 256 hx))⟩
end
theorem and63 (x : Int) : 0 ≤ Builtin.bitAnd x 63 ∧ Builtin.bitAnd x 63 < 64 := by
  rw [bitAnd_m6]
  exact ⟨Int.emod_nonneg _ (by decide), Int.emod_lt_of_pos _ (by decide)⟩
section
variable {prog : Program} {w : World} {A : Around} {E : Value → Shared → Prop} {s : Shared} {Q : Value → Shared → Prop}
theorem item_b64 {value slice : PySem.Expr} {k : Int} {t u : Tok} (h0 : 0 ≤ k) (h1 : k < 64) (h : ∀ t tk, Q (.int (sg k) t) { s with toks := tk })
    (hs : subscripted slice false (.bytes b64codes.toArray t) (.int k u) = operate [.bytes b64codes.toArray t, .int k u] (getItem (.bytes b64codes.toArray t) (.int k u))) (ht : ∀ r, letTemporaryGo value (.bytes b64codes.toArray t) r = pure ()) :
    wpAny (model prog w) A (subscriptTail value slice (.bytes b64codes.toArray t) (.int k u)) Q E s :=
  subscriptTail_builtin (typeIs_bytes _ _ _) FB.slot_bytes_getitem.lookup (getItem_bytes (by decide) h0 h1 (h _ _)) (hs := hs) (ht := ht)
end
theorem byteArr_at {ns : List Int} (hb : ∀ x ∈ ns, 0 ≤ x ∧ x < 256) {i : Nat} {c : UInt8} (h : (byteArr ns)[i]? = some c) : (c.toNat : Int) = ns.getD i 0 ∧ i < ns.length := by
  unfold byteArr at h
  rw [List.getElem?_toArray, List.getElem?_map] at h
  cases e : ns[i]? with
  | none => rw [e] at h; cases h
  | some n =>
    rw [e] at h
    obtain ⟨h0, h1⟩ := hb n (List.mem_of_getElem? e)
    obtain ⟨k, ek⟩ := Int.eq_ofNat_of_zero_le h0
    subst ek
    rw [List.getD_eq_getElem?_getD, e, ← Option.some.inj h]
    exact ⟨congrArg Nat.cast (Nat.mod_eq_of_lt (Int.ofNat_lt.mp h1)), (List.getElem?_eq_some_iff.mp e).1⟩
theorem getD_in {ns : List Int} (hb : ∀ x ∈ ns, 0 ≤ x ∧ x < 256) (j : Nat) : 0 ≤ ns.getD j 0 ∧ ns.getD j 0 < 256 := by
  rw [List.getD_eq_getElem?_getD]
  cases h : ns[j]? with
  | none => exact ⟨by simp, by simp⟩
  | some x => exact hb x (List.mem_of_getElem? h)
end Mine

namespace Mine
section
open LCg
section
variable {c : Cx} {env : Env} {m : Str → Option Value} {nw : List (Addr × Obj)} {pos p ap pf sp : Pos} {kk k : Nat} {e f o a b i : Expr} {es : List Expr}
theorem upd_pre {l : Addr} {ob ob' : Obj} : ∀ {pre : List (Addr × Obj)}, (∀ p ∈ pre ++ nw, @Ne Nat p.1 l) → Upd l ob ob' (pre ++ (l, ob) :: nw) (pre ++ (l, ob') :: nw)
  | [], off => .head off
  | _ :: _, off => .tail (off _ (.head _)) (upd_pre fun p hp => off p (.tail _ hp))
theorem Evs.intE {x : Int} {ts : List Int} (h : Ev c env m nw e (IsI x)) (hs : Evs c env m nw es (IntsAre · ts)) (he : starEach (e :: es) env = (false, eval e env) :: starEach es env) : Evs c env m nw (e :: es) (IntsAre · (x :: ts)) := fun s hh tk pos Q C k E =>
  args_cons (h s hh tk _ C (fun v h1 tk1 C1 q1z => by obtain ⟨t, e⟩ := q1z; subst e; exact hs s h1 tk1 pos _ C1 (fun r h2 tk2 C2 q => k _ _ _ C2 (.cons _ _ q)) E) E) he
theorem Evs.ints0 : Evs c env m nw [] (IntsAre · []) := fun _ _ _ _ _ C k _ => args_nil (k _ _ _ C .nil)
theorem Ev.var {x : Str} {v : Value} (hv : m x = some v) (hL : env.locals = c.L) (hk : env.scope.kind = .function) (hl : env.kindOf x = some .local) (hd : (x == ("__debug__" : Str)) = false) : Ev c env m nw (.Name x pos) (· = v) := .loc hv rfl hL hk hl hd
theorem Ev.none : Ev c env m nw (.Constant .none kk pos) (· = .none) := fun _ _ _ _ C k _ => wpAny_Constant_none (k _ _ _ C rfl)
theorem Ev.bool {b : Bool} : Ev c env m nw (.Constant (.bool b) kk pos) (· = .bool b) := fun _ _ _ _ C k _ => Constant_bool (k _ _ _ C rfl)
theorem cmp_self {v : Value} (h : PySem.plainIs v v = true) : Cmp .Is (· = v) (· = v) true := fun _ _ _ _ _ _ _ e e' q => by subst e; subst e'; exact wpAny_is_self h q
theorem cmp_bnone {b : Bool} : Cmp .Is (· = .bool b) (· = .none) false := fun _ _ _ _ _ _ _ e e' q => by subst e; subst e'; exact is_bool_none q
theorem cmp_nnone : Cmp .IsNot (· = .none) (· = .none) false := fun _ _ _ _ _ _ _ e e' q => by subst e; subst e'; exact isnot_none_none q
theorem Ev.ifexp {P : Value → Prop} {t : Expr} {r : Bool} (ht : Tv c env m nw t r) (hb : Ev c env m nw (if r then a else b) P) : Ev c env m nw (.IfExp t a b pos) P := fun s h tk Q C kq E =>
  IfExp_ (ht s h tk _ C (fun h1 tk1 C1 => by
    cases r with
    | true => exact hb s h1 tk1 Q C1 kq E
    | false => exact hb s h1 tk1 Q C1 kq E) E)
theorem EvN.kw {x y : Str} {fa : Addr} {P P' : Value → Prop} {kp' : Pos} {R : Value → List (Addr × Obj) → Prop} (O : Ok c k) (g : Gd x fa) (ha : Ev c env m nw a P) (hb : Ev c env m nw b P') (D : ∀ v u, P v → P' u → Dz k fa [v] nw R [(y, u)])
    (hk : env.scope.kind = .function) (hx : env.kindOf x = some .globalImplicit) (hg : env.globals = mainGlobals) (hd : (x == ("__debug__" : Str)) = false)
    (hs : starEach [a] env = (false, eval a env) :: starEach [] env) (h1 : ((backToKw pos (keywordEach [⟨some y, b, kp'⟩] env)).all fun x => x.1.isSome) = true)
    (h2 : (((backTo pos (starEach [a] env)).any fun x => x.1) || (backToKw pos (keywordEach [⟨some y, b, kp'⟩] env)).any fun x => x.1.isNone) = false) (h3 : (backToKw pos (keywordEach [⟨some y, b, kp'⟩] env)).filterMap (fun x => x.1) = [y]) :
    EvN c env m nw (.Call (.Name x pf) [a] [⟨some y, b, kp'⟩] pos) R := fun s h tk Q C kq E =>
  wpAny_Call_Name_kw (Ev.glob (pos := pf) O (g c.w).1 hk hx hg hd s h tk _ C (fun v h1' tk1 C1 ev => by
    subst ev
    exact callWith_KW O.X (g c.w).2 h1 (Evs.one ha hs s h1' tk1 pos _ C1 (fun vs h2' tk2 C2 q2z => by
      obtain ⟨v, e, pv⟩ := q2z
      subst e
      exact kwAll_cons (hb s h2' tk2 (fun u s₁ => wpAny _ _ (evalAll (List.map (fun x => x.2) (backToKw pos (keywordEach [] env)))) (fun ks s₂ => (hd0183.heap_39 c.w.params).In s₂.heap ∧ wpAny _ _ (PySem.call (.ref fa) [v] ((List.filterMap (fun x => x.1) (backToKw pos (keywordEach [⟨some y, b, kp'⟩] env))).zip (u :: ks))) Q E s₂) E s₁) C2 (fun u h3' tk3 C3 pu => kwAll_nil (pos := pos) (env := env) ⟨O.X.keeps C3.F.keep, by
        rw [h3]
        exact D v u pv pu c m s h3' tk3 Q O C3 (fun r tl h' tk' C' o hr => kq r tl h' tk' C' o hr) E⟩) E)) E) h2 hs) E)
section
variable {s : Shared} {h : Heap} {tk : Nat} {Q : Flow → Shared → Prop} {rest body orelse : List Stmt} {test : Expr}
theorem go_ext {l : Addr} {vs : List Value} {nn : Nat} {pre : List (Addr × Obj)} {T : List Value → Prop} {pl : Sem Bool} (C : Cur c m (pre ++ (l, W.listOf vs.toArray nn) :: nw) h) (ho : Ev c env m (pre ++ (l, W.listOf vs.toArray nn) :: nw) o (· = .ref l)) (ha : EvN c env m (pre ++ (l, W.listOf vs.toArray nn) :: nw) a (NewL T))
    (off : ∀ p ∈ pre ++ nw, @Ne Nat p.1 l) (hz : ∀ us, T us → us.length ≠ 0 ∧ vs.length + us.length ≤ sizeLine) (kq : ∀ us h' tk', T us → Cur c m (pre ++ (l, W.listOf (vs ++ us).toArray (nn + 1)) :: nw) h' → Go c env rest Q s h' tk')
    (he : eval (.Call (.Attribute o (Str.ofString "extend") ap) [a] [] pos) env = (do
      let ov ← eval o env
      standAt ap.atName
      let (f, first) ← holding [ov] (getMethod ov (Str.ofString "extend") pl)
      callWith pos f first (backTo pos (starEach [a] env)) [])) (hst : starEach [a] env = (false, eval a env) :: starEach [] env)
    (hi : interactive env = false) (hs : swapsWith (.Call (.Attribute o (Str.ofString "extend") ap) [a] [] pos) none p.line env = pure false) : Go c env (.Expr (.Call (.Attribute o (Str.ofString "extend") ap) [a] [] pos) p :: rest) Q s h tk :=
  go_seq fun E => wpAny_Expr_any (MethodCall_ (ho s h tk _ C (fun v h1 tk1 C1 e => by
    subst e
    refine kl_method C1.N (List.mem_append_right _ (.head _)) F.slot_list_extend F.type_list_extend (callWith_method1 (args_cons (ha s h1 tk1 (fun v s₁ => wpAny _ _ (spliced (backTo pos (starEach [] env))) (fun vs s₂ => wpAny _ _ (call (.builtin "list.extend") ([.ref l] ++ v :: vs)) _ E s₂) E s₁) C1 (fun u tl h2 tk2 C2 o1 q3z => args_nil ?_) E) hst) hst rfl)
    obtain ⟨b, us, n2, e, e1, hT⟩ := q3z
    subst e e1
    obtain ⟨z1, z2⟩ := hz us hT
    exact kl_extend (s := { s with heap := h2, toks := tk2 }) C2.F C2.N (.head _) rfl z1 (.tail (Ne.symm (o1 _ (List.mem_append_right _ (.head _)) _ (.head _))) (upd_pre off)) (extend_door z2) (Nat.le_trans (Nat.le_add_right _ _) z2) (Nat.le_succ_of_le z2) fun h' F' N' => kq us h' tk2 hT ⟨F', drop1 N'⟩ E) E) he) hi hs
theorem go_while (j : Nat) (hw : WhlRest PR c.w c.A (fun _ _ => False) env test body orelse (Then c env rest Q) j { s with heap := h, toks := tk }) : Go c env (.While test body orelse pos :: rest) Q s h tk :=
  go_seq fun E => wpAny_mono (whl_start j hw) (fun f s' q => by cases f <;> first | exact q E | exact q) fun _ _ e => e.elim
theorem wl_yes {j : Nat} (C : Cur c m nw h) (d : Tv c env m nw test true) (kq : ∀ h' tk', Cur c m nw h' → Go c env body (WhlPost PR c.w c.A (fun _ _ => False) env test body orelse Q j) s h' tk') : WhlRest PR c.w c.A (fun _ _ => False) env test body orelse Q (j + 1) { s with heap := h, toks := tk } :=
  whl_turn PassesOwn.never (d s h tk _ C (fun h' tk' C' => WhlIf.yes rfl (kq h' tk' C' _)) _)
theorem wl_no {j : Nat} (C : Cur c m nw h) (d : Tv c env m nw test false) (kq : ∀ h' tk', Cur c m nw h' → Go c env orelse Q s h' tk') : WhlRest PR c.w c.A (fun _ _ => False) env test body orelse Q (j + 1) { s with heap := h, toks := tk } :=
  whl_turn PassesOwn.never (d s h tk _ C (fun h' tk' C' => WhlIf.no rfl (kq h' tk' C' _)) _)
end
end
end
end Mine

namespace Mine
theorem d_signs : Gd (Str.ofString "_law_signs") 172 := fun _ => ⟨by kernel_rfl, by kernel_rfl⟩
noncomputable abbrev signs : Str := Str.ofString "ABCDEFGHIJKLMNOPQRSTUVWXYZabcdefghijklmnopqrstuvwxyz0123456789+/"
theorem z_signs (nw : List (Addr × Obj)) : Dz 1 172 [] nw (fun r tl => IsS signs r ∧ tl = []) := by
  have kfill : Mine.trow = Mine.trow ∧ hd0183.heap_39 = hd0183.heap_39 := by k_fill; exact ⟨rfl, rfl⟩
  refine' Mine.enter (binds := []) ?ka ?kb ?kc ?kd ?ke ?kf ?kg ?kh ?_; (case ka => intro w; k_is); (case kb => intro w; k_is); (case kc => first | exact fun _ _ _ => BindsTo.of_eq rfl | exact fun w s hX => binds_K hX rfl (by k_is) rfl rfl rfl); (case kd => exact locs rfl); (case ke => exact rfl); (case kf => exact rfl); (case kg => exact rfl); (case kh => decide)
  clear kfill
  intro c s h tk m R O C ha hR
  exact go_ret C .str fun v h2 tk2 hv C2 => hR v [] h2 tk2 _ _ C2 (fun p hp => hp) no_ord ⟨hv, rfl⟩
theorem octetsTo_succ (ns : List Int) (i : Nat) : octetsTo ns (i + 1) = octetsTo ns i ++ octs (ns.getD (2 * i) 0) (ns.getD (2 * i + 1) 0) := by
  unfold octetsTo
  rw [List.range_succ, List.flatMap_append]
  simp
theorem octetsTo_length (ns : List Int) (i : Nat) : (octetsTo ns i).length = 3 * i := by
  induction i with
  | zero => rfl
  | succ i ih => rw [octetsTo_succ, List.length_append, ih]; rfl
theorem getD_bound {ns : List Int} (hb : ∀ x ∈ ns, 0 ≤ x ∧ x < 4096) (j : Nat) : 0 ≤ ns.getD j 0 ∧ ns.getD j 0 < 4096 := by
  rw [List.getD_eq_getElem?_getD]
  cases h : ns[j]? with
  | none => exact ⟨by simp, by simp⟩
  | some x => exact hb x (List.mem_of_getElem? h)
theorem range_two : ∀ n : Nat, n ≤ 16 → n % 2 = 0 → Builtin.Range.small 0 (n : Int) 2 = true ∧ Builtin.Range.rangeSize 0 (n : Int) 2 = ((n / 2 : Nat) : Int) ∧ Builtin.divisionGoesByPylong ((n : Int) - 0) 2 = false := by decide +kernel
theorem ix2a (i : Nat) : (0 + (i : Int) * 2).toNat = 2 * i := by
  rw [Int.zero_add]
  exact Nat.mul_comm i 2
theorem ix2b (i : Nat) : (0 + (i : Int) * 2 + 1).toNat = 2 * i + 1 := by
  rw [Int.zero_add]
  exact congrArg (· + 1) (Nat.mul_comm i 2)
theorem mul_ok {x y : Int} (h : 0 ≤ x ∧ x < 4096) : IntMulOk x y := IntMulOk.of_left (intBits_le_64 (Int.lt_of_lt_of_le (by decide) h.1) (Int.lt_trans h.2 (by decide)))
theorem ix_ok {i n : Nat} (hi : i < n / 2) (hn : n ≤ 16) : (0 ≤ 0 + (i : Int) * 2 ∧ 0 + (i : Int) * 2 < 1048576 ∧ (0 + (i : Int) * 2).toNat < n) ∧ (0 ≤ 0 + (i : Int) * 2 + 1 ∧ 0 + (i : Int) * 2 + 1 < 1048576 ∧ (0 + (i : Int) * 2 + 1).toNat < n) := by
  rw [Int.zero_add]
  have h : i * 2 + 1 < n := by
    have := Nat.mul_le_of_le_div 2 (i + 1) n hi
    rw [Nat.succ_mul] at this
    exact this
  have h' : i * 2 + 1 < 1048576 := Nat.lt_trans h (Nat.lt_of_le_of_lt hn (by decide))
  exact ⟨⟨Int.natCast_nonneg (i * 2), Int.ofNat_lt.mpr (Nat.lt_of_succ_lt h'), Nat.lt_of_succ_lt h⟩, Int.natCast_nonneg (i * 2 + 1), Int.ofNat_lt.mpr h', h⟩
inductive OInv (ns : List Int) (ls l : Addr) (nw : List (Addr × Obj)) : Nat → (Str → Option Value) → List (Addr × Obj) → Prop
  | mk {i m vo no} (hv : IntsAre vo (octetsTo ns i)) (ho : m (Str.ofString "octets") = some (.ref l)) (hs : m (Str.ofString "sets") = some (.ref ls)) : OInv ns ls l nw i m ((l, W.listOf (vo : List Value).toArray no) :: nw)
theorem z_octets (ls : Addr) (vs : List Value) (ns : List Int) (nw : List (Addr × Obj)) (hm : LAt vs nw ls) (hvs : IntsAre vs ns) (hlen : ns.length ≤ 16) (h2 : ns.length % 2 = 0) (hb : ∀ x ∈ ns, 0 ≤ x ∧ x < 4096) (us : List Value) (hu : ∃ v, us = [v] ∧ v = .ref ls) : Dz 1 191 us nw (NewL (IntsAre · (octetsTo ns (ns.length / 2)))) := by
  obtain ⟨v, e, e1⟩ := hu
  subst e e1
  have kfill : Mine.trow = Mine.trow ∧ hd0183.heap_39 = hd0183.heap_39 := by k_fill; exact ⟨rfl, rfl⟩
  refine' Mine.enter (binds := [(Str.ofString "sets", .ref ls)]) ?ka ?kb ?kc ?kd ?ke ?kf ?kg ?kh ?_; (case ka => intro w; k_is); (case kb => intro w; k_is); (case kc => first | exact fun _ _ _ => BindsTo.of_eq rfl | exact fun w s hX => binds_K hX rfl (by k_is) rfl rfl rfl); (case kd => exact locs rfl); (case ke => exact rfl); (case kf => exact rfl); (case kg => exact rfl); (case kh => decide)
  clear kfill
  intro c s h tk m R O C ha hR
  refine go_asgN (hL := by rfl) (hl := by rfl) (hp := by rfl) (hs := by rfl) C (.list .nil fun vs e => by subst e; decide) fun v tl m1 h1' tk1 hv o C1 en kp => ?_
  obtain ⟨l, _, e, e1, e2⟩ := hv
  subst e e1 e2
  have es := kp (Str.ofString "sets") _ (by decide) (ha _ _ rfl)
  have off0 : ∀ p ∈ nw, @Ne Nat p.1 l := fun p hp => o p hp _ (.head _)
  have hm1 : ∀ q, LAt vs (q :: nw) ls := fun q => hm.imp fun _ h => .tail _ h
  obtain ⟨r1, r2, r3⟩ := range_two _ hlen h2
  refine go_forS (hL := by rfl) (hx := by rfl) (hp := by rfl) (hs := by intro _; rfl) O (OInv ns ls l nw) (fun m' nw' => m' (Str.ofString "octets") = some (.ref l) ∧ ∃ vo no, nw' = (l, W.listOf (vo : List Value).toArray no) :: nw ∧ IntsAre vo (octetsTo ns (ns.length / 2))) C1 (src_range2 (hk := by rfl) (hx := by rfl) (hg := by rfl) (hb := by rfl) (he := by rfl) (hs := by rfl) (hs1 := by rfl) (hs2 := by rfl) (hp := by rfl) (n := ns.length / 2) O g_range .int (.bi (hk := by rfl) (hx := by rfl) (hg := by rfl) (hb := by rfl) (hd := by decide) (he := by rfl) (hs := by rfl) (hp := by rfl) O g_len (bz_lenL (hm1 _) hvs.length (Nat.le_trans hlen (by decide))) (.one (hs := by rfl) (.loc (hL := by rfl) (hk := by rfl) (hl := by rfl) (hd := by decide) es rfl))) .int r3 r1 r2) (fun _ _ _ _ => trivial) (OInv.mk (i := 0) (vo := []) .nil en es) (fun I i v m2 nw2 oI h2 tk2 R' hi hv hJ off C2 hN hB => ?_) (fun m2 nw2 h2 tk2 R' hJ C2 hN => ?_) fun m2 nw2 h2 tk2 hK C2 => ?_
  · cases hJ with
    | @mk vo no hvo ho hs =>
    obtain ⟨⟨a1, a2, a3⟩, b1, b2, b3⟩ := ix_ok hi hlen
    have ha := getD_bound hb (2 * i)
    have hs : (fun y => if y = Str.ofString "k" then some v else m2 y) (Str.ofString "sets") = _ := (if_neg (by decide)).trans hs
    have hm2 : LAt vs ((I, oI) :: (l, W.listOf (vo : List Value).toArray no) :: nw) ls := hm.imp fun _ h => .tail _ (.tail _ h)
    refine go_asg (hL := by rfl) (hl := by rfl) (hp := by rfl) (hs := by rfl) C2 (.bin op_add (.bin (op_mul (mul_ok (getD_bound hb _))) (.ints (hs := by intro _ _ _; with_unfolding_all rfl) hm2 hvs a1 a2 a3 (.loc (hL := by rfl) (hk := by rfl) (hl := by rfl) (hd := by decide) hs rfl) (.loc (hL := by rfl) (hk := by rfl) (hl := by rfl) (hd := by decide) (if_pos rfl) hv)) .int) (.ints (hs := by intro _ _ _; with_unfolding_all rfl) hm2 hvs b1 b2 b3 (.loc (hL := by rfl) (hk := by rfl) (hl := by rfl) (hd := by decide) hs rfl) (.bin op_add (.loc (hL := by rfl) (hk := by rfl) (hl := by rfl) (hd := by decide) (if_pos rfl) hv) .int))) fun v3 m3 h3 tk3 hb3 C3 eb kp => ?_
    rw [ix2a, ix2b] at hb3
    have ho := kp _ _ (by decide) ((if_neg (by decide)).trans ho)
    have hs := kp _ _ (by decide) hs
    refine go_ext (he := by rfl) (hst := by rfl) (hi := by rfl) (hs := by rfl) (pre := [(I, oI)]) (T := (IntsAre · (octs (ns.getD (2 * i) 0) (ns.getD (2 * i + 1) 0)))) C3 (.loc (hL := by rfl) (hk := by rfl) (hl := by rfl) (hd := by decide) ho rfl) ?_ (off_I off off0) (fun us hu => ?_) fun us h4 tk4 hu C4 => go_nil (hN _ _ _ _ C4 (off_head off) (.mk (octetsTo_succ ns i ▸ hvo.append hu) ho hs))
    · exact .listL (.intE (he := by rfl) (.bin (op_fdiv (by decide) (PyProof.noPylong_of_log2 (by decide))) (.loc (hL := by rfl) (hk := by rfl) (hl := by rfl) (hd := by decide) eb hb3) .int) (.intE (he := by rfl) (.bin (op_mod (by decide)) (.bin (op_fdiv (by decide) (PyProof.noPylong_of_log2 (by decide))) (.loc (hL := by rfl) (hk := by rfl) (hl := by rfl) (hd := by decide) eb hb3) .int) .int) (.intE (he := by rfl) (.bin (op_mod (by decide)) (.loc (hL := by rfl) (hk := by rfl) (hl := by rfl) (hd := by decide) eb hb3) .int) .ints0))) fun us hu => by rw [hu.length]; exact (show 3 ≤ sizeLine by decide)
    · have e1 := hvo.length.trans (octetsTo_length ns i)
      have e2 : us.length = 3 := hu.length
      rw [e1, e2]
      exact ⟨by decide, Nat.le_trans (Nat.add_le_add_right (Nat.mul_le_mul_left 3 (Nat.le_trans (Nat.le_of_lt hi) (Nat.div_le_div_right hlen))) 3) (by decide)⟩
  · cases hJ with
    | mk hv ho hs => exact go_nil (hN _ _ _ _ C2 ⟨ho, _, _, rfl, hv⟩)
  · obtain ⟨eo, vo, no, e, hv⟩ := hK
    subst e
    exact go_ret C2 (.loc (hL := by rfl) (hk := by rfl) (hl := by rfl) (hd := by decide) (P := (· = .ref l)) eo rfl) fun v h3 tk3 e C3 => hR v [_] h3 tk3 _ _ C3 (fun p hp => hp) (one_ord off0) ⟨l, vo, no, e, rfl, hv⟩
end Mine

namespace Mine
section
open LCg
section
variable {c : Cx} {env : Env} {m : Str → Option Value} {nw : List (Addr × Obj)} {pos p ap pf sp : Pos} {kk k : Nat} {e f o a b i : Expr} {es : List Expr}
theorem Ev.biN {x : Str} {id : String} {P : Value → List (Addr × Obj) → Prop} {R : Value → Prop} (O : Ok c k) (g : Gb x (.builtin id)) (bz : ∀ v tl, P v tl → Bz c m (tl ++ nw) (.builtin id) [v] R) (ha : EvN c env m nw a P)
    (hk : env.scope.kind = .function) (hx : env.kindOf x = some .globalImplicit) (hg : env.globals = mainGlobals) (hb : env.builtins = builtinsNs) (hd : (x == ("__debug__" : Str)) = false)
    (he : eval (.Call (.Name x pf) [a] [] pos) env = (do callWith pos (← eval (.Name x pf) env) [] (backTo pos (starEach [a] env)) (backToKw pos (keywordEach [] env)))) (hs : starEach [a] env = (false, eval a env) :: starEach [] env) :
    Ev c env m nw (.Call (.Name x pf) [a] [] pos) R := fun s h tk Q C kq E =>
  Call_ (Ev.built (pos := pf) O (g.1 c.w) g.2.1 g.2.2 hk hx hg hb hd s h tk _ C (fun v h1 tk1 C1 ev => by
    subst ev
    exact callWith_method1 (args_cons (ha s h1 tk1 (fun v s₁ => wpAny _ _ (spliced (backTo pos (starEach [] env))) (fun vs s₂ => wpAny _ _ (PySem.call (.builtin id) (v :: vs)) Q E s₂) E s₁) C1 (fun u tl h2 tk2 C2 o1 pu => args_nil (bz u tl pu s h2 tk2 Q C2 (fun r h3 tk3 C3 hr => kq r h3 tk3 (C3.sub fun p hp => List.mem_append_right _ hp) hr) E)) E) hs) hs rfl) E) he
theorem Ev.joinN {x : Str} {ys : List Str} {pl : Sem Bool} (hx : x.length ≤ 16) (hw : (ys.map (·.length)).sum + ys.length ≤ 1048576) (ho : Ev c env m nw o (IsS x)) (ha : EvN c env m nw a (NewL (StrsAre · ys)))
    (he : eval (.Call (.Attribute o (Str.ofString "join") ap) [a] [] pos) env = (do
      let ov ← eval o env
      standAt ap.atName
      let (f, first) ← holding [ov] (getMethod ov (Str.ofString "join") pl)
      callWith pos f first (backTo pos (starEach [a] env)) [])) (hst : starEach [a] env = (false, eval a env) :: starEach [] env) : Ev c env m nw (.Call (.Attribute o (Str.ofString "join") ap) [a] [] pos) (IsS (PySem.Txt.join x ys)) := fun s h tk Q C kq E =>
  MethodCall_ (ho s h tk _ C (fun v h1 tk1 C1 q1z => by
    obtain ⟨t, e⟩ := q1z
    subst e
    exact g_join _ _ _ _ _ _ t (callWith_method1 (args_cons (ha s h1 tk1 (fun v s₁ => wpAny _ _ (spliced (backTo pos (starEach [] env))) (fun vs s₂ => wpAny _ _ (PySem.call (.builtin "str.join") (.str x t :: v :: vs)) Q E s₂) E s₁) C1 (fun u tl h2 tk2 C2 o1 q2z => by obtain ⟨l, vs, nn, e, e1, hv⟩ := q2z; exact args_nil (by
      subst e e1
      exact bz_join ⟨nn, .head _⟩ hv hx hw s h2 tk2 Q C2 (fun r h3 tk3 C3 hr => kq r h3 tk3 C3.drop hr) E)) E) hst) hst rfl)) E) he
end
end
end Mine

namespace Mine
section
open LCg
noncomputable def InL (T : List Value → Prop) (nw : List (Addr × Obj)) (v : Value) (tl : List (Addr × Obj)) : Prop := ∃ l vs, v = .ref l ∧ LAt vs (tl ++ nw) l ∧ T vs
noncomputable def DatL (ds : List Dat) (nw : List (Addr × Obj)) (v : Value) (tl : List (Addr × Obj)) : Prop := ∃ l vs, v = .ref l ∧ LAt vs (tl ++ nw) l ∧ DatAll (tl ++ nw) vs ds
section
variable {c : Cx} {env : Env} {m : Str → Option Value} {nw : List (Addr × Obj)} {pos p ap pf sp : Pos} {kk k : Nat} {e f o a b i : Expr} {es : List Expr} {T : List Value → Prop}
theorem EvN.new (h : EvN c env m nw e (NewL T)) : EvN c env m nw e (InL T nw) := h.mono fun _ _ q1z => by obtain ⟨l, vs, nn, e, e1, h⟩ := q1z; exact ⟨l, vs, e, by subst e1; exact ⟨nn, .head _⟩, h⟩
theorem EvN.old {l : Addr} {vs : List Value} (hm : LAt vs nw l) (ht : T vs) (h : Ev c env m nw e (· = .ref l)) : EvN c env m nw e (InL T nw) := (EvN.of h).mono fun _ _ q2z => by obtain ⟨e, e1⟩ := q2z; exact ⟨l, vs, e, by subst e1; exact hm, ht⟩
theorem sub_2 {q : Addr × Obj} {t1 t2 : List (Addr × Obj)} : ∀ p ∈ q :: nw, p ∈ q :: (t2 ++ (t1 ++ nw)) := fun p hp => by
  cases hp with
  | head => exact .head _
  | tail _ hp => exact .tail _ (List.mem_append_right _ (List.mem_append_right _ hp))
theorem EvN.addL {xs ys : List Int} (hz : xs.length + ys.length ≤ sizeLine) (ha : EvN c env m nw a (InL (IntsAre · xs) nw)) (hb : ∀ tl, EvN c env m (tl ++ nw) b (InL (IntsAre · ys) (tl ++ nw))) : EvN c env m nw (.BinOp a .Add b pos) (NewL (IntsAre · (xs ++ ys))) := fun s h tk Q C kq E =>
  wpAny_BinOp (ha s h tk _ C (fun v tl h1 tk1 C1 _ q3z => by obtain ⟨l, vs, e, ⟨_, hm⟩, hx⟩ := q3z; exact hb tl s h1 tk1 _ C1 (fun u t2 h2 tk2 C2 _ q4z => by
    obtain ⟨l2, us, e2, ⟨_, hm2⟩, hy⟩ := q4z
    subst e e2
    exact kmk_add_ints (s := { s with heap := h2, toks := tk2 }) C2.F C2.N (C2.N.isList (List.mem_append_right _ hm)) (C2.N.isList hm2) hx hy (fun D ws h' F' N' lt hw => kq _ [_] h' tk2 ⟨F', fun p hp => N' p (sub_2 p hp)⟩ (one_ord fun p hp => Nat.ne_of_lt (lt p (List.mem_append_right _ (List.mem_append_right _ hp)))) ⟨D, ws, 0, rfl, rfl, hw⟩) hz) E) E)
theorem EvN.mulL {x : Int} {n : Nat} (hn : ∀ vs, T vs → vs.length = n) (h0 : 0 ≤ x) (h1 : x ≤ 256) (hz : n * x.toNat ≤ 256) (ha : EvN c env m nw a (NewL T)) (hb : ∀ tl, Ev c env m (tl ++ nw) b (IsI x)) : EvN c env m nw (.BinOp a .Mult b pos) (NewL fun ws => ∃ vs, T vs ∧ ws = (List.replicate x.toNat vs).flatten) := fun s h tk Q C kq E =>
  wpAny_BinOp (ha s h tk _ C (fun v tl h1' tk1 C1 _ q5z => by obtain ⟨l, vs, _, e, e1, hT⟩ := q5z; exact hb tl s h1' tk1 _ C1 (fun u h2 tk2 C2 q6z => by
    obtain ⟨t, e2⟩ := q6z
    subst e e1 e2
    exact KMa.mul (s := { s with heap := h2, toks := tk2 }) C2.F C2.N (C2.N.isList (.head _)) (Int.le_trans (by decide) h0) (Int.lt_of_le_of_lt h1 (by decide)) (by rw [hn vs hT]; exact hz) rfl fun D h' F' N' lt => kq _ [_] h' tk2 ⟨F', fun p hp => N' p (sub_2 (t1 := [_]) (t2 := []) p hp)⟩ (one_ord fun p hp => Nat.ne_of_lt (lt p (.tail _ hp))) ⟨D, _, 0, rfl, rfl, vs, hT, rfl⟩) E) E)
theorem EvN.slice {j : Int} (hz : ∀ vs, T vs → vs.length ≤ sizeLine) (ho : EvN c env m nw o (fun v tl => ∃ l vs, v = .ref l ∧ (∀ h, Cur c m (tl ++ nw) h → h.IsList l (vs : List Value).toArray) ∧ T vs)) (ha : ∀ tl, Ev c env m (tl ++ nw) a (IsI j))
    (hs : ∀ l n, subscripted (.Slice none (some a) none sp) false (.ref l) (.ref n) = operate [.ref n, .ref l] (getItem (.ref l) (.ref n))) :
    EvN c env m nw (.Subscript o (.Slice none (some a) none sp) pos) (NewL fun ws => ∃ vs, T vs ∧ ws = (slicePick vs.toArray none (some j) none).toList) := fun s h tk Q C kq E =>
  Subscript_ (ho s h tk _ C (fun v tl h1 tk1 C1 _ q7z => by
    obtain ⟨l, vs, e, hl, hT⟩ := q7z
    subst e
    exact wpAny_Slice (evalPart_none_step (evalPart_some_step (ha tl s h1 tk1 _ C1 (fun _ h2 tk2 C2 q8z => by
      obtain ⟨u, e⟩ := q8z
      subst e
      refine evalPart_none_step ?_
      have hl := hl h2 C2
      have lt := fun p (hp : p ∈ nw) => Heap.lt_size (C2.N p (List.mem_append_right _ hp)).1
      refine tail_any (Heap.IsList.typeIs (s := { s with heap := h2.push { cls := .type "slice", data := .fields #[.none, .int j u, .none] }, toks := tk2 }) (hl.push _)) list_getitem_lookup (wpAny_getItem_list_slice (hl.push _) (Heap.IsSliceOf.new ..) IsPart.none (IsPart.int _ _) .none (by simp) ?_ (by rw [List.size_toArray]; exact hz vs hT)) (hs _ _)
      have N1 := News.push (C2.F.push { cls := .type "slice", data := .fields #[.none, .int j u, .none] }) (C2.N.grown fun _ _ e => Heap.get?_push_of_some _ e) { cls := .type "list", data := .seq (slicePick vs.toArray none (some j) none) }
      exact kq _ [(_, W.listOf (slicePick vs.toArray none (some j) none).toList.toArray 0)] _ tk2 ⟨(C2.F.push _).push _, by rw [Array.toArray_toList]; exact fun p hp => N1 p (sub_2 (t2 := []) p hp)⟩ (one_ord fun p hp => Nat.ne_of_lt (by rw [Heap.size_push]; exact Nat.lt_succ_of_lt (lt p hp))) ⟨_, _, 0, rfl, rfl, vs, hT, rfl⟩) E)))) E)
theorem pick_upto {vs : List Value} {y : Int} (h : 0 ≤ y) : (slicePick vs.toArray none (some y) none).toList = vs.take y.toNat := by
  rw [kms_pick_eq]
  show (vs.drop 0).take (kms_hi (some y) vs.length - 0) = _
  rw [show kms_hi (some y) vs.length = min y.toNat vs.length from if_neg (Int.not_lt.mpr h), List.drop_zero, Nat.sub_zero, kmk_take_min]
theorem pick_last (vs : List Value) : (slicePick vs.toArray none (some (-1)) none).toList = vs.dropLast := by
  rw [kms_pick_eq, List.dropLast_eq_take]
  rfl
theorem EvN.upto {la : Addr} {vs : List Value} {ts : List Str} {j : Int} (hm : LAt vs nw la) (hv : StrsAre vs ts) (hj : 0 ≤ j) (hz : ts.length ≤ sizeLine) (ho : Ev c env m nw o (· = .ref la)) (ha : ∀ tl, Ev c env m (tl ++ nw) a (IsI j))
    (hs : ∀ l n, subscripted (.Slice none (some a) none sp) false (.ref l) (.ref n) = operate [.ref n, .ref l] (getItem (.ref l) (.ref n))) : EvN c env m nw (.Subscript o (.Slice none (some a) none sp) pos) (NewL (StrsAre · (ts.take j.toNat))) :=
  (EvN.slice (T := (StrsAre · ts)) (fun vs h => h.length ▸ hz) ((EvN.of ho).mono fun v tl p => ⟨la, vs, p.1, fun h C => by obtain ⟨_, hm⟩ := hm; exact C.N.isList (List.mem_append_right _ hm), hv⟩) ha hs).mono fun v tl p => by
    obtain ⟨l, ws, nn, e, e1, vs, hT, e2⟩ := p
    exact ⟨l, ws, nn, e, e1, by rw [e2, pick_upto hj]; exact hT.take' _⟩
theorem Ev.last {ts : List Str} (hne : ts ≠ []) (ho : EvN c env m nw o (NewL (StrsAre · ts))) (hi : ∀ tl, Ev c env m (tl ++ nw) i (IsI (-1)))
    (hs : ∀ l u, subscripted i false (.ref l) (.int (-1) u) = operate [.ref l, .int (-1) u] (getItem (.ref l) (.int (-1) u))) : Ev c env m nw (.Subscript o i pos) (IsS (ts.getLastD Str.empty)) := fun s h tk Q C kq E =>
  Subscript_ (ho s h tk _ C (fun v tl h1 tk1 C1 _ q9z => by
    obtain ⟨l, vs, nn, e, e1, hT⟩ := q9z
    exact hi tl s h1 tk1 _ C1 (fun u h2 tk2 C2 q10z => by
      obtain ⟨t, e2⟩ := q10z
      subst e e2 e1
      have hl := C2.N.isList (.head _)
      have hp := List.length_pos_iff.mpr hne
      have e1 : ts[ts.length - 1]? = some (ts.getLastD Str.empty) := by rw [List.getLastD_eq_getLast?, ← List.getLast?_eq_getElem?, List.getLast?_eq_some_getLast hne]; rfl
      obtain ⟨t', e⟩ := hT.get _ _ e1
      rw [← hT.length] at hp e
      refine tail_any (s := { s with heap := h2, toks := tk2 }) hl.typeIs slot_list_getitem.lookup (wpAny_getItem_list_neg hl (by decide) (by rw [List.size_toArray]; exact Int.neg_le_neg (Int.ofNat_le.mpr hp)) (by decide) (x := .str (ts.getLastD Str.empty) t') ?_ (kq _ _ _ C2.drop ⟨t', rfl⟩)) (hs _ _)
      rw [List.size_toArray, Int.add_comm, show ((vs.length : Int) + -1).toNat = vs.length - 1 from Int.toNat_sub vs.length 1]
      simpa using e) E) E)
open Classical in
theorem Tv.neD {ds : List Dat} (O : Ok c 4) (ok : ∀ d ∈ ds, kqdOk 8 d = true) (ha : EvN c env m nw a (DatL ds nw)) (hb : ∀ tl, EvN c env m (tl ++ nw) b (DatL ds (tl ++ nw))) (hm : behindInMarks .NotEq b = false) : Tv c env m nw (.Compare a [.NotEq] [b] pos) false := fun s h tk Q C kq E =>
  wpAny_isTrue_Compare1 (ha s h tk _ C (fun v tl h1 tk1 C1 _ q11z => by obtain ⟨l, vs, e, ⟨_, hm⟩, hx⟩ := q11z; exact hb tl s h1 tk1 _ C1 (fun u t2 h2 tk2 C2 _ q12z => by
    obtain ⟨l2, us, e2, ⟨_, hm2⟩, hy⟩ := q12z
    subst e e2
    refine kqd_ne (s := { s with heap := h2, toks := tk2 }) C2.N (List.mem_append_right _ hm) rfl rfl hx (fun p hp => List.mem_append_right _ hp) hm2 rfl rfl hy (fun p hp => hp) ok ok O.hu ?_
    rw [decide_eq_true rfl]
    exact wpAny_truthy_bool (kq _ _ (C2.sub fun p hp => List.mem_append_right _ (List.mem_append_right _ hp)))) E) E) hm
open Classical in
theorem Ev.eqD {ds : List Dat} (O : Ok c 4) (ok : ∀ d ∈ ds, kqdOk 8 d = true) (ha : EvN c env m nw a (DatL ds nw)) (hb : ∀ tl, EvN c env m (tl ++ nw) b (DatL ds (tl ++ nw))) (hm : behindInMarks .Eq b = false) : Ev c env m nw (.Compare a [.Eq] [b] pos) (· = .bool true) := fun s h tk Q C kq E =>
  wpAny_Compare1 (ha s h tk _ C (fun v tl h1 tk1 C1 _ q13z => by obtain ⟨l, vs, e, ⟨_, hm⟩, hx⟩ := q13z; exact hb tl s h1 tk1 _ C1 (fun u t2 h2 tk2 C2 _ q14z => by
    obtain ⟨l2, us, e2, ⟨_, hm2⟩, hy⟩ := q14z
    subst e e2
    refine kqd_eq (s := { s with heap := h2, toks := tk2 }) C2.N (List.mem_append_right _ hm) rfl rfl hx (fun p hp => List.mem_append_right _ hp) hm2 rfl rfl hy (fun p hp => hp) ok ok O.hu ?_
    rw [decide_eq_true rfl]
    exact kq _ _ _ (C2.sub fun p hp => List.mem_append_right _ (List.mem_append_right _ hp)) rfl) E) E) hm
theorem dats_strs {nw : List (Addr × Obj)} {vs : List Value} {ts : List Str} (h : StrsAre vs ts) : DatAll nw vs (ts.map Dat.str) := by
  induction h with
  | nil => exact .nil
  | cons x t _ ih => exact .cons (.str x t) ih
theorem dats_ints {nw : List (Addr × Obj)} {vs : List Value} {ts : List Int} (h : IntsAre vs ts) : DatAll nw vs (ts.map Dat.int) := by
  induction h with
  | nil => exact .nil
  | cons x t _ ih => exact .cons (.int x t) ih
theorem EvN.dat {T : List Value → Prop} {ds : List Dat} (h : EvN c env m nw e (InL T nw)) (hT : ∀ vs nw, T vs → DatAll nw vs ds) : EvN c env m nw e (DatL ds nw) := h.mono fun _ _ q15z => by obtain ⟨l, vs, e, hm, h⟩ := q15z; exact ⟨l, vs, e, hm, hT vs _ h⟩
theorem EvN.defN {x : Str} {fa : Addr} {P : Value → List (Addr × Obj) → Prop} {R : Value → List (Addr × Obj) → Prop} (O : Ok c k) (g : Gd x fa) (ha : EvN c env m nw a P) (D : ∀ v tl, P v tl → Dz k fa [v] (tl ++ nw) R)
    (hk : env.scope.kind = .function) (hx : env.kindOf x = some .globalImplicit) (hg : env.globals = mainGlobals) (hd : (x == ("__debug__" : Str)) = false)
    (he : eval (.Call (.Name x pf) [a] [] pos) env = (do callWith pos (← eval (.Name x pf) env) [] (backTo pos (starEach [a] env)) (backToKw pos (keywordEach [] env)))) (hs : starEach [a] env = (false, eval a env) :: starEach [] env) :
    EvN c env m nw (.Call (.Name x pf) [a] [] pos) R := fun s h tk Q C kq E =>
  Call_ (Ev.glob (pos := pf) O (g c.w).1 hk hx hg hd s h tk _ C (fun v h1 tk1 C1 ev => by
    subst ev
    exact callWith_K O.X (g c.w).2 (args_cons (ha s h1 tk1 (fun v s₁ => wpAny _ _ (spliced (backTo pos (starEach [] env))) (fun vs s₂ => (hd0183.heap_39 c.w.params).In s₂.heap ∧ wpAny _ _ (PySem.call (.ref fa) (v :: vs)) Q E s₂) E s₁) C1 (fun u tl h2 tk2 C2 _ pu => args_nil ⟨O.X.keeps C2.F.keep, D u tl pu c m s h2 tk2 Q O C2 (fun r t2 h' tk' C' o hr => kq r t2 h' tk' (C'.sub fun p hp => (List.mem_append.mp hp).elim (fun hp => List.mem_append_left _ hp) fun hp => List.mem_append_right _ (List.mem_append_right _ hp)) (fun q hq => o q (List.mem_append_right _ hq)) hr) E⟩) E) hs) hs rfl) E) he
noncomputable def IsB (ns : List Int) (v : Value) : Prop := ∃ t, v = .bytes (byteArr ns) t
theorem Ev.bytesOf {ns : List Int} (O : Ok c k) (hin : KBa.In ns) (hz : ns.length ≤ 16777216) (ha : EvN c env m nw a (InL (IntsAre · ns) nw))
    (hk : env.scope.kind = .function) (hx : env.kindOf (Str.ofString "bytes") = some .globalImplicit) (hg : env.globals = mainGlobals) (hb : env.builtins = builtinsNs)
    (he : eval (.Call (.Name (Str.ofString "bytes") pf) [a] [] pos) env = (do callWith pos (← eval (.Name (Str.ofString "bytes") pf) env) [] (backTo pos (starEach [a] env)) (backToKw pos (keywordEach [] env)))) (hs : starEach [a] env = (false, eval a env) :: starEach [] env) :
    Ev c env m nw (.Call (.Name (Str.ofString "bytes") pf) [a] [] pos) (IsB ns) := fun s h tk Q C kq E =>
  Call_ (Ev.bname (pos := pf) O g_bytes hk hx hg hb (by decide) s h tk _ C (fun v h1 tk1 C1 ev => by
    subst ev
    exact Pv.callWith_type1 (args_cons (ha s h1 tk1 (fun v s₁ => wpAny _ _ (spliced (backTo pos (starEach [] env))) (fun vs s₂ => wpAny _ _ (PySem.call (.type "bytes") (v :: vs)) Q E s₂) E s₁) C1 (fun u tl h2 tk2 C2 _ q16z => by obtain ⟨l, vs, e, ⟨_, hm⟩, hv⟩ := q16z; exact args_nil (by
      subst e
      exact KBa.make_K (s := { s with heap := h2, toks := tk2 }) C2.F C2.N O.hh (C2.N.isList hm) hv hin hz fun h' t' k F' N' _ => kq _ h' k ⟨F', fun p hp => N' p (List.mem_append_right _ hp)⟩ ⟨t', rfl⟩)) E) hs) hs rfl) E) he
end
end
end Mine

namespace Mine
theorem ty_bytes {s : Shared} {v : Value} {ns : List Int} : IsB ns v → Shared.TypeIs s v "bytes" := fun q1z => by obtain ⟨t, e⟩ := q1z; exact e ▸ typeIs_bytes _ _ _
theorem ty_bool {s : Shared} {v : Value} {b : Bool} : v = .bool b → Shared.TypeIs s v "bool" := fun e => e ▸ rfl
theorem g_bool : Gb (Str.ofString "bool") (.type "bool") := ⟨fun _ => by kernel_rfl, rfl, by decide⟩
theorem d_buffer : Gd (Str.ofString "_buffer") 36 := fun _ => ⟨by kernel_rfl, by kernel_rfl⟩
theorem d_truth : Gd (Str.ofString "_truth") 43 := fun _ => ⟨by kernel_rfl, by kernel_rfl⟩
theorem d_b2a : Gd (Str.ofString "b2a_base64") 51 := fun _ => ⟨by kernel_rfl, by kernel_rfl⟩
theorem b64_glob (w : World) : nsIn (hd0183.heap_39 w.params) mainGlobals (Str.ofString "_B64") = some (some (.bytes b64codes.toArray 255)) := by kernel_rfl
theorem z_buffer (ns : List Int) (nw : List (Addr × Obj)) (vs : List Value) (hv : ∃ v, vs = [v] ∧ IsB ns v) : Dz 1 36 vs nw (fun r tl => IsB ns r ∧ tl = []) := by
  obtain ⟨v, e, t, e1⟩ := hv
  subst e e1
  have kfill : Mine.trow = Mine.trow ∧ hd0183.heap_39 = hd0183.heap_39 := by k_fill; exact ⟨rfl, rfl⟩
  refine' Mine.enter (binds := [(Str.ofString "data", .bytes (byteArr ns) t)]) ?ka ?kb ?kc ?kd ?ke ?kf ?kg ?kh ?_; (case ka => intro w; k_is); (case kb => intro w; k_is); (case kc => first | exact fun _ _ _ => BindsTo.of_eq rfl | exact fun w s hX => binds_K hX rfl (by k_is) rfl rfl rfl); (case kd => exact locs rfl); (case ke => exact rfl); (case kf => exact rfl); (case kg => exact rfl); (case kh => decide)
  clear kfill
  intro c s h tk m R O C ha hR
  refine go_asg (hL := by rfl) (hl := by rfl) (hp := by rfl) (hs := by rfl) C (.ty (hk := by rfl) (hx := by rfl) (hg := by rfl) (hb := by rfl) (he := by rfl) (hs := by rfl) O g_type (by decide +kernel) (fun s v => ty_bytes) (.loc (hL := by rfl) (hk := by rfl) (hl := by rfl) (hd := by decide) (ha _ _ rfl) ⟨t, rfl⟩)) fun v m1 h1 tk1 ev C1 et kp => ?_
  subst ev
  have ed := kp (Str.ofString "data") _ (by decide) (ha _ _ rfl)
  refine go_if (b := true) C1 (.cmp (hm := by with_unfolding_all rfl) (cmp_self (v := .type "bytes") (by decide +kernel)) (.loc (hL := by rfl) (hk := by rfl) (hl := by rfl) (hd := by decide) et rfl) (.bname (hk := by rfl) (hx := by rfl) (hg := by rfl) (hb := by rfl) (hd := by decide) O g_bytes)) fun h2 tk2 C2 => ?_
  exact go_ret C2 (.loc (hL := by rfl) (hk := by rfl) (hl := by rfl) (hd := by decide) ed ⟨t, rfl⟩) fun v h3 tk3 hv C3 => hR v [] h3 tk3 _ _ C3 (fun p hp => hp) no_ord ⟨hv, rfl⟩
theorem z_truth (nw : List (Addr × Obj)) (vs : List Value) (hv : ∃ v, vs = [v] ∧ v = .bool false) : Dz 1 43 vs nw (fun r tl => r = .bool false ∧ tl = []) := by
  obtain ⟨v, e, e1⟩ := hv
  subst e e1
  have kfill : Mine.trow = Mine.trow ∧ hd0183.heap_39 = hd0183.heap_39 := by k_fill; exact ⟨rfl, rfl⟩
  refine' Mine.enter (binds := [(Str.ofString "x", .bool false)]) ?ka ?kb ?kc ?kd ?ke ?kf ?kg ?kh ?_; (case ka => intro w; k_is); (case kb => intro w; k_is); (case kc => first | exact fun _ _ _ => BindsTo.of_eq rfl | exact fun w s hX => binds_K hX rfl (by k_is) rfl rfl rfl); (case kd => exact locs rfl); (case ke => exact rfl); (case kf => exact rfl); (case kg => exact rfl); (case kh => decide)
  clear kfill
  intro c s h tk m R O C ha hR
  refine go_asg (hL := by rfl) (hl := by rfl) (hp := by rfl) (hs := by rfl) C (.ty (hk := by rfl) (hx := by rfl) (hg := by rfl) (hb := by rfl) (he := by rfl) (hs := by rfl) O g_type (by decide +kernel) (fun s v => ty_bool) (.loc (hL := by rfl) (hk := by rfl) (hl := by rfl) (hd := by decide) (ha _ _ rfl) rfl)) fun v m1 h1 tk1 ev C1 et kp => ?_
  subst ev
  have ed := kp (Str.ofString "x") _ (by decide) (ha _ _ rfl)
  refine go_if (b := true) C1 (.parts (.or (b1 := false) (.cmp (hm := by with_unfolding_all rfl) cmp_bnone (.loc (hL := by rfl) (hk := by rfl) (hl := by rfl) (hd := by decide) ed rfl) .none) fun _ => .or (b1 := true) (b2 := false) (.cmp (hm := by with_unfolding_all rfl) (cmp_self (v := .type "bool") (by decide +kernel)) (.loc (hL := by rfl) (hk := by rfl) (hl := by rfl) (hd := by decide) et rfl) (.bname (hk := by rfl) (hx := by rfl) (hg := by rfl) (hb := by rfl) (hd := by decide) O g_bool)) fun h => Bool.noConfusion h)) fun h2 tk2 C2 => ?_
  exact go_ret C2 (.ifexp (r := false) (.val (he := by rfl) truth_bool (.loc (hL := by rfl) (hk := by rfl) (hl := by rfl) (hd := by decide) ed rfl)) .bool) fun v h3 tk3 hv C3 => hR v [] h3 tk3 _ _ C3 (fun p hp => hp) no_ord ⟨hv, rfl⟩
noncomputable def outs (lc : Int) : Nat → Int → List Int
  | 0, _ => []
  | j + 1, lb => sg (Builtin.bitAnd (lc.fdiv (2 ^ (lb - 6).toNat)) 63) :: outs lc j (lb - 6)
inductive BCase (ns : List Int) : Nat → Int → Int → Prop
  | a {i lc} (h : i % 3 = 0) : BCase ns i 0 lc
  | b {i lc} (h : i % 3 = 1) (e : lc % 256 = ns.getD (i - 1) 0) : BCase ns i 2 lc
  | c {i lc} (h : i % 3 = 2) (e : lc % 256 = ns.getD (i - 1) 0) : BCase ns i 4 lc
structure BSt (lb lc : Int) (ys : List Int) (l : Addr) (m : Str → Option Value) (vo : List Value) : Prop where
  hv : IntsAre vo ys
  ho : m (Str.ofString "out") = some (.ref l)
  hb : ∃ v, m (Str.ofString "leftbits") = some v ∧ IsI lb v
  hc : ∃ v, m (Str.ofString "leftchar") = some v ∧ IsI lc v
  hn : m (Str.ofString "newline") = some (.bool false)
inductive BInv (ns : List Int) (l : Addr) (nw : List (Addr × Obj)) : Nat → (Str → Option Value) → List (Addr × Obj) → Prop
  | mk {i m vo no lb lc} (S : BSt lb lc ((encIdx ns i).map sg) l m vo) (h0 : 0 ≤ lc ∧ lc < 65536) (hc : BCase ns i lb lc) : BInv ns l nw i m ((l, W.listOf (vo : List Value).toArray no) :: nw)
theorem b2a_next {ns : List Int} {i : Nat} {lb lc d : Int} (h0 : 0 ≤ lc) (hd : d = ns.getD i 0) (hdb : 0 ≤ d ∧ d < 256) (hc : BCase ns i lb lc) :
    ∃ j r : Nat, lb + 8 = ((r + 6 * j : Nat) : Int) ∧ r < 6 ∧ j ≤ 2 ∧ (encIdx ns i).map sg ++ outs (work lc d) j ((r + 6 * j : Nat) : Int) = (encIdx ns (i + 1)).map sg ∧ BCase ns (i + 1) (r : Int) (work lc d) := by
  have hw := (work_low h0 hdb).trans hd
  cases hc with
  | a h => exact ⟨1, 2, rfl, by decide, by decide, by
      rw [encIdx, if_pos h, List.map_append, ← hd, ← idx0 h0 hdb]; rfl, .b (by rw [Nat.add_mod, h]) hw⟩
  | b h e => exact ⟨1, 4, rfl, by decide, by decide, by
      rw [encIdx, h, List.map_append, ← hd, ← idx1 h0 hdb e]; rfl, .c (by rw [Nat.add_mod, h]) hw⟩
  | c h e => exact ⟨2, 0, rfl, by decide, by decide, by
      rw [encIdx, h, List.map_append, ← hd, ← idx2 h0 hdb e, ← idx3 h0 hdb]; rfl, .a (by rw [Nat.add_mod, h])⟩
theorem sub6 (r j : Nat) : ((r + 6 * (j + 1) : Nat) : Int) - 6 = ((r + 6 * j : Nat) : Int) := Int.add_sub_cancel ((r + 6 * j : Nat) : Int) 6
theorem abs_in {x : Int} (h : 0 ≤ x ∧ x < 65536) : x.natAbs < 2 ^ 64 := by
  obtain ⟨n, e⟩ := Int.eq_ofNat_of_zero_le h.1
  subst e
  exact Nat.lt_trans (Int.ofNat_lt.mp h.2) (by decide)
theorem Ev.b64 {c : Cx} {env : Env} {m : Str → Option Value} {nw : List (Addr × Obj)} {o i : Expr} {pos : Pos} {j : Int} (h0 : 0 ≤ j) (h1 : j < 64) (ho : Ev c env m nw o (· = .bytes b64codes.toArray 255)) (hi : Ev c env m nw i (IsI j))
    (hs : ∀ u, subscripted i false (.bytes b64codes.toArray 255) (.int j u) = operate [.bytes b64codes.toArray 255, .int j u] (getItem (.bytes b64codes.toArray 255) (.int j u))) (ht : ∀ r, letTemporaryGo o (.bytes b64codes.toArray 255) r = pure ()) : Ev c env m nw (.Subscript o i pos) (IsI (sg j)) := fun s h tk Q C kq E =>
  Subscript_ (ho s h tk _ C (fun v h1' tk1 C1 e => hi s h1' tk1 _ C1 (fun u h2 tk2 C2 q2z => by
    obtain ⟨t, e2⟩ := q2z
    subst e e2
    exact item_b64 h0 h1 (fun t tk => kq _ _ _ C2 ⟨t, rfl⟩) (hs _) ht) E) E)
theorem z_b2a (ns : List Int) (nw : List (Addr × Obj)) (h3 : ns.length % 3 = 0) (hb : ns.length ≤ 12) (hin : ∀ x ∈ ns, 0 ≤ x ∧ x < 256) (v u : Value) (hv : IsB ns v) (hu : u = .bool false) : Dz 2 51 [v] nw (fun r tl => IsB ((encIdx ns ns.length).map sg) r ∧ tl = []) [(Str.ofString "newline", u)] := by
  obtain ⟨t, e1⟩ := hv
  subst e1 hu
  have kfill : Mine.trow = Mine.trow ∧ hd0183.heap_39 = hd0183.heap_39 := by k_fill; exact ⟨rfl, rfl⟩
  refine' Mine.enter (binds := [(Str.ofString "data", .bytes (byteArr ns) t), (Str.ofString "newline", .bool false)]) ?ka ?kb ?kc ?kd ?ke ?kf ?kg ?kh ?_; (case ka => intro w; k_is); (case kb => intro w; k_is); (case kc => first | exact fun _ _ _ => BindsTo.of_eq rfl | exact fun w s hX => binds_K hX rfl (by k_is) rfl rfl rfl); (case kd => exact locs rfl); (case ke => exact rfl); (case kf => exact rfl); (case kg => exact rfl); (case kh => decide)
  clear kfill
  intro c s h tk m R O C ha hR
  refine go_asg (hL := by rfl) (hl := by rfl) (hp := by rfl) (hs := by rfl) C (.of (.def (hk := by rfl) (hx := by rfl) (hg := by rfl) (hd := by decide) (he := by rfl) (hs := by rfl) (hp := by rfl) O d_buffer (.one (hs := by rfl) (.loc (hL := by rfl) (hk := by rfl) (hl := by rfl) (hd := by decide) (ha _ _ rfl) ⟨t, rfl⟩)) (z_buffer ns _))) fun v m1 h1 tk1 hd C1 ed kp => ?_
  refine go_asg (hL := by rfl) (hl := by rfl) (hp := by rfl) (hs := by rfl) C1 (.of (.def (hk := by rfl) (hx := by rfl) (hg := by rfl) (hd := by decide) (he := by rfl) (hs := by rfl) (hp := by rfl) O d_truth (.one (hs := by rfl) (.var (hL := by rfl) (hk := by rfl) (hl := by rfl) (hd := by decide) (kp (Str.ofString "newline") _ (by decide) (ha _ _ rfl)))) (z_truth _))) fun v2 m2 h2 tk2 hn C2 en kp => ?_
  subst hn
  have ed := kp _ _ (by decide) ed
  refine go_asgN (hL := by rfl) (hl := by rfl) (hp := by rfl) (hs := by rfl) C2 (.list .nil fun vs e => by subst e; decide) fun v3 tl m3 h3' tk3 hv o C3 eo kp => ?_
  obtain ⟨l, _, e, e1, e2⟩ := hv
  subst e e1 e2
  have off0 : ∀ p ∈ nw, @Ne Nat p.1 l := fun p hp => o p hp _ (.head _)
  have ed := kp _ _ (by decide) ed
  have en := kp _ _ (by decide) en
  refine go_asg (hL := by rfl) (hl := by rfl) (hp := by rfl) (hs := by rfl) C3 .int fun v4 m4 h4 tk4 h4' C4 eb kp => ?_
  have ed := kp _ _ (by decide) ed
  have en := kp _ _ (by decide) en
  have eo := kp _ _ (by decide) eo
  refine go_asg (hL := by rfl) (hl := by rfl) (hp := by rfl) (hs := by rfl) C4 .int fun v5 m5 h5 tk5 h5' C5 ec kp => ?_
  have ed := kp _ _ (by decide) ed
  have en := kp _ _ (by decide) en
  have eo := kp _ _ (by decide) eo
  have eb := kp _ _ (by decide) eb
  refine go_forS (hL := by rfl) (hx := by rfl) (hp := by rfl) (hs := by intro _; rfl) O (BInv ns l nw) (BInv ns l nw ns.length) C5 (src_bytes O (.loc (hL := by rfl) (hk := by rfl) (hl := by rfl) (hd := by decide) ed hd)) (fun _ _ _ _ => trivial) (BInv.mk (i := 0) (vo := []) (lb := 0) (lc := 0) ⟨.nil, eo, ⟨_, eb, h4'⟩, ⟨_, ec, h5'⟩, en⟩ ⟨by decide, by decide⟩ (.a rfl)) (fun I i v m2 nw2 oI h2 tk2 R' hi hv hJ off C2 hN hB => ?_) (fun m2 nw2 h2 tk2 R' hJ C2 hN => ?_) fun m2 nw2 h2 tk2 hK C2 => ?_
  · cases hJ with
    | @mk vo no lb lc S h0 hc =>
    obtain ⟨x, tv, hx, e⟩ := hv
    subst e
    obtain ⟨hd1, hil⟩ := byteArr_at hin hx
    have hdb := getD_in hin i
    rw [← hd1] at hdb
    obtain ⟨j, r, j1, j2, j3, jo, jc⟩ := b2a_next h0.1 hd1 hdb hc
    have hw := work_bound h0.1 hdb
    have hlv := S.hv.length
    have hle := encIdx_len ns i
    rw [List.length_map] at hlv
    clear hx hd1 hc ha
    generalize (x.toNat : Int) = d at *
    obtain ⟨hv, ho, ⟨v1, b1, b2⟩, ⟨v2, c1, c2⟩, hn⟩ := S
    refine go_asg (hL := by rfl) (hl := by rfl) (hp := by rfl) (hs := by rfl) C2 (.bin op_and (.bin op_or (.bin (op_shl (by decide) (by decide) (abs_in h0)) (.loc (hL := by rfl) (hk := by rfl) (hl := by rfl) (hd := by decide) ((if_neg (by decide)).trans c1) c2) .int) (.loc (hL := by rfl) (hk := by rfl) (hl := by rfl) (hd := by decide) (if_pos rfl) ⟨tv, rfl⟩)) .int) fun v3 m3 h3 tk3 q3 C3 e3 kp => ?_
    have ho := kp _ _ (by decide) ((if_neg (by decide)).trans ho)
    have hn := kp _ _ (by decide) ((if_neg (by decide)).trans hn)
    refine go_asg (hL := by rfl) (hl := by rfl) (hp := by rfl) (hs := by rfl) C3 (.bin op_add (.loc (hL := by rfl) (hk := by rfl) (hl := by rfl) (hd := by decide) (kp _ _ (by decide) ((if_neg (by decide)).trans b1)) b2) .int) fun v4 m4 h4 tk4 q4 C4 e4 kp => ?_
    rw [j1] at q4
    have S : BSt ((r + 6 * j : Nat) : Int) (work lc d) ((encIdx ns i).map sg) l m4 vo := ⟨hv, kp _ _ (by decide) ho, ⟨_, e4, q4⟩, ⟨_, kp _ _ (by decide) e3, q3⟩, kp _ _ (by decide) hn⟩
    have fin : ∀ m' h' tk' vo' no', BSt (r : Int) (work lc d) ((encIdx ns i).map sg ++ outs (work lc d) j ((r + 6 * j : Nat) : Int)) l m' vo' → Cur c m' ((I, oI) :: (l, W.listOf (vo' : List Value).toArray no') :: nw) h' → R' .next { s with heap := h', toks := tk' } := fun m' h' tk' vo' no' S' C' => hN h' tk' m' _ C' (off_head off) (.mk (jo ▸ S') hw jc)
    have hvl : vo.length + j ≤ 100 := Nat.le_trans (Nat.add_le_add (hlv ▸ Nat.le_trans hle (Nat.mul_le_mul_left 2 (Nat.le_of_lt (Nat.lt_of_lt_of_le hil hb)))) j3) (by decide)
    clear hN hB kp e3 e4 q3 q4 hv ho hn b1 b2 c1 c2 C3 C2 jo jc hw hlv hle hdb h0 j1 j3
    refine go_while (j + 1) ?_
    generalize (encIdx ns i).map sg = ys at *
    generalize work lc d = lc at *
    clear hi
    induction j generalizing ys vo no m4 h4 tk4 with
    | zero =>
      refine wl_no C4 (.as (.cmp (hm := by with_unfolding_all rfl) cmp_ge (.loc (hL := by rfl) (hk := by rfl) (hl := by rfl) (hd := by decide) S.hb.choose_spec.1 S.hb.choose_spec.2) .int) (decide_eq_false fun h => absurd (Int.ofNat_le.mp h) (Nat.not_le.mpr j2))) fun h5 tk5 C5 => go_nil (Then.end (fin _ _ _ _ _ (by simpa [outs] using S) C5))
    | succ j ih =>
      obtain ⟨hv, ho, ⟨v1, b1, b2⟩, ⟨v2, c1, c2⟩, hn⟩ := S
      refine wl_yes C4 (.as (.cmp (hm := by with_unfolding_all rfl) cmp_ge (.loc (hL := by rfl) (hk := by rfl) (hl := by rfl) (hd := by decide) b1 b2) .int) (decide_eq_true (Int.ofNat_le.mpr (Nat.le_add_left 6 (r + 6 * j))))) fun h5 tk5 C5 => ?_
      refine go_app (he := by rfl) (hst := by rfl) (hi := by rfl) (hs := by rfl) (pre := [(I, oI)]) (P := IsI (sg (Builtin.bitAnd (lc.fdiv (2 ^ (((r + 6 * (j + 1) : Nat) : Int) - 6).toNat)) 63))) C5 (.var (hL := by rfl) (hk := by rfl) (hl := by rfl) (hd := by decide) ho) (.b64 (hs := by intro _; with_unfolding_all rfl) (ht := by intro _; with_unfolding_all rfl) (and63 _).1 (and63 _).2 (.glob (hk := by rfl) (hx := by rfl) (hg := by rfl) (hd := by decide) O (b64_glob _)) (.bin op_and (.bin (op_shr (sub6 r j ▸ Int.natCast_nonneg _)) (.loc (hL := by rfl) (hk := by rfl) (hl := by rfl) (hd := by decide) c1 c2) (.bin op_sub (.loc (hL := by rfl) (hk := by rfl) (hl := by rfl) (hd := by decide) b1 b2) .int)) .int)) (off_I off off0) (Nat.le_trans (Nat.le_trans (Nat.le_add_right _ _) hvl) (by decide)) fun v5 h6 tk6 hv5 C6 => ?_
      obtain ⟨t5, e5⟩ := hv5
      subst e5
      refine go_asg (hL := by rfl) (hl := by rfl) (hp := by rfl) (hs := by rfl) C6 (.bin op_sub (.loc (hL := by rfl) (hk := by rfl) (hl := by rfl) (hd := by decide) b1 b2) .int) fun v7 m7 h7 tk7 q7 C7 e7 kp => go_nil ?_
      rw [sub6] at q7
      refine ih (off_head off) m7 h7 tk7 C7 (by rw [List.length_append, List.length_singleton, Nat.add_assoc, Nat.add_comm 1]; exact hvl) _ ⟨hv.append (.cons _ t5 .nil), kp _ _ (by decide) ho, ⟨_, e7, q7⟩, ⟨_, kp _ _ (by decide) c1, c2⟩, kp _ _ (by decide) hn⟩ fun m' h' tk' vo' no' S' C' => fin m' h' tk' vo' no' ?_ C'
      rw [outs, List.append_cons, sub6]
      rw [sub6] at S'
      exact S'
  · exact go_nil (hN _ _ _ _ C2 (by rw [byteArr_size] at hJ; exact hJ))
  · cases hK with
    | @mk vo no lb lc S h0 hc =>
    obtain ⟨hv, ho, ⟨v1, b1, b2⟩, ⟨v2, c1, c2⟩, hn⟩ := S
    have hlb : lb = 0 := by
      cases hc with
      | a h => rfl
      | b h e => exact absurd (h3.symm.trans h) (by decide)
      | c h e => exact absurd (h3.symm.trans h) (by decide)
    subst hlb
    refine go_if (b := false) C2 (.cmp (hm := by with_unfolding_all rfl) cmp_eq (.loc (hL := by rfl) (hk := by rfl) (hl := by rfl) (hd := by decide) b1 b2) .int) fun h3 tk3 C3 => ?_
    refine go_if (b := false) C3 (.cmp (hm := by with_unfolding_all rfl) cmp_eq (.loc (hL := by rfl) (hk := by rfl) (hl := by rfl) (hd := by decide) b1 b2) .int) fun h4 tk4 C4 => go_nil (Then.end (Then.go ?_))
    refine go_if (b := false) C4 (.val (he := by rfl) truth_bool (.var (hL := by rfl) (hk := by rfl) (hl := by rfl) (hd := by decide) hn)) fun h5 tk5 C5 => Then.nil ?_
    have hinO : KBa.In ((encIdx ns ns.length).map sg) := fun x hx => by obtain ⟨k, _, rfl⟩ := List.mem_map.mp hx; exact sg_bound k
    have hlO : ((encIdx ns ns.length).map sg).length ≤ 16777216 := by rw [List.length_map]; exact Nat.le_trans (encIdx_len ns ns.length) (Nat.le_trans (Nat.mul_le_mul_left 2 hb) (by decide))
    exact go_ret C5 (.bytesOf (hk := by rfl) (hx := by rfl) (hg := by rfl) (hb := by rfl) (he := by rfl) (hs := by rfl) O hinO hlO (.old ⟨_, .head _⟩ hv (.var (hL := by rfl) (hk := by rfl) (hl := by rfl) (hd := by decide) ho))) fun v h6 tk6 hv6 C6 => hR v [] h6 tk6 _ _ C6 (fun p hp => .tail _ hp) no_ord ⟨hv6, rfl⟩
theorem z_b64 (ns : List Int) (nw : List (Addr × Obj)) (h3 : ns.length % 3 = 0) (hb : ns.length ≤ 12) (hin : ∀ x ∈ ns, 0 ≤ x ∧ x < 256) (vs : List Value) (hv : ∃ v, vs = [v] ∧ IsB ns v) : Dz 3 59 vs nw (fun r tl => IsB ((encIdx ns ns.length).map sg) r ∧ tl = []) := by
  obtain ⟨v, e, t, e1⟩ := hv
  subst e e1
  have kfill : Mine.trow = Mine.trow ∧ hd0183.heap_39 = hd0183.heap_39 := by k_fill; exact ⟨rfl, rfl⟩
  refine' Mine.enter (binds := [(Str.ofString "s", .bytes (byteArr ns) t), (Str.ofString "altchars", .none)]) ?ka ?kb ?kc ?kd ?ke ?kf ?kg ?kh ?_; (case ka => intro w; k_is); (case kb => intro w; k_is); (case kc => first | exact fun _ _ _ => BindsTo.of_eq rfl | exact fun w s hX => binds_K hX rfl (by k_is) rfl rfl rfl); (case kd => exact locs rfl); (case ke => exact rfl); (case kf => exact rfl); (case kg => exact rfl); (case kh => decide)
  clear kfill
  intro c s h tk m R O C ha hR
  refine go_asg (hL := by rfl) (hl := by rfl) (hp := by rfl) (hs := by rfl) C (.of (.kw (hk := by rfl) (hx := by rfl) (hg := by rfl) (hd := by decide) (hs := by rfl) (h1 := by rfl) (h2 := by rfl) (h3 := by rfl) O d_b2a (.loc (hL := by rfl) (hk := by rfl) (hl := by rfl) (hd := by decide) (ha _ _ rfl) ⟨t, rfl⟩) .bool (z_b2a ns _ h3 hb hin))) fun v m1 h1 tk1 hd C1 ed kp => ?_
  refine go_if (b := false) C1 (.cmp (hm := by with_unfolding_all rfl) cmp_nnone (.var (hL := by rfl) (hk := by rfl) (hl := by rfl) (hd := by decide) (kp (Str.ofString "altchars") _ (by decide) (ha _ _ rfl))) .none) fun h2 tk2 C2 => Then.nil ?_
  exact go_ret C2 (.loc (hL := by rfl) (hk := by rfl) (hl := by rfl) (hd := by decide) ed hd) fun v h3 tk3 hv C3 => hR v [] h3 tk3 _ _ C3 (fun p hp => hp) no_ord ⟨hv, rfl⟩
end Mine

namespace Mine
theorem g_chr : Gb (Str.ofString "chr") (.builtin "chr") := ⟨fun _ => by kernel_rfl, rfl, by decide⟩
theorem bz_chr {x : Int} (h0 : 0 ≤ x) (h1 : x < 256) {c : Cx} {m : Str → Option Value} {nw : List (Addr × Obj)} (vs : List Value) : (∃ v, vs = [v] ∧ IsI x v) → Bz c m nw (.builtin "chr") vs (IsS ⟨#[x.toNat]⟩) := fun q1z => by
  obtain ⟨v, e, t, e1⟩ := q1z
  subst e e1
  exact fun s h tk Q C kq E => chr_of_range h0 (Int.le_of_lt (Int.lt_trans h1 (by decide))) (kq _ h _ C ⟨_, rfl⟩)
theorem getD_64 {ns : List Int} (hb : ∀ x ∈ ns, 0 ≤ x ∧ x < 64) (j : Nat) : 0 ≤ ns.getD j 0 ∧ ns.getD j 0 < 64 := by
  rw [List.getD_eq_getElem?_getD]
  cases h : ns[j]? with
  | none => exact ⟨by simp, by simp⟩
  | some x => exact hb x (List.mem_of_getElem? h)
theorem find_sign : ∀ k : Nat, k < 64 → PySem.Txt.find signs ⟨#[(sg (k : Int)).toNat]⟩ = (k : Int) := by decide +kernel
theorem find_sg {x : Int} (h : 0 ≤ x ∧ x < 64) : PySem.Txt.find signs ⟨#[(sg x).toNat]⟩ = x := by
  obtain ⟨k, e⟩ := Int.eq_ofNat_of_zero_le h.1
  subst e
  exact find_sign k (Int.ofNat_lt.mp h.2)
theorem LAt.sub {vs : List Value} {nw nw' : List (Addr × Obj)} {l d : Addr} {v : Value} (h : LAt vs nw l) (st : Stored nw d v nw') : LAt vs nw' l := h.imp fun _ hm => st.sub _ hm (Or.inr fun _ e => nomatch e)
theorem sg_at {ks : List Int} {i : Nat} {x : UInt8} (h : (byteArr (ks.map sg))[i]? = some x) : ∃ y, ks[i]? = some y ∧ (x.toNat : Int) = sg y := by
  obtain ⟨e, hi⟩ := byteArr_at (fun x hx => by obtain ⟨k, _, rfl⟩ := List.mem_map.mp hx; exact sg_bound k) h
  rw [List.length_map] at hi
  exact ⟨_, List.getElem?_eq_getElem hi, by rw [e, List.getD_eq_getElem?_getD, List.getElem?_map, List.getElem?_eq_getElem hi]; rfl⟩
theorem pairsTo_succ (ks : List Int) (i : Nat) : pairsTo ks (i + 1) = pairsTo ks i ++ [ks.getD (2 * i) 0 * 64 + ks.getD (2 * i + 1) 0] := by
  unfold pairsTo
  rw [List.range_succ, List.map_append]
  rfl
theorem ints_snoc {vs : List Value} {ns : List Int} {x : Int} {v : Value} (h : IntsAre vs ns) : IsI x v → IntsAre (vs ++ [v]) (ns ++ [x]) := fun q2z => by obtain ⟨t, e⟩ := q2z; exact e ▸ h.append (.cons _ t .nil)
theorem z_read (ks : List Int) (nw : List (Addr × Obj)) (h2 : ks.length % 2 = 0) (hb : ks.length ≤ 16) (hks : ∀ x ∈ ks, 0 ≤ x ∧ x < 64) (vs : List Value) (hv : ∃ v, vs = [v] ∧ IsB (ks.map sg) v) : Dz 2 196 vs nw (NewL (IntsAre · (pairsTo ks (ks.length / 2)))) := by
  obtain ⟨v, e, t, e1⟩ := hv
  subst e e1
  have kfill : Mine.trow = Mine.trow ∧ hd0183.heap_39 = hd0183.heap_39 := by k_fill; exact ⟨rfl, rfl⟩
  refine' Mine.enterC (binds := [(Str.ofString "writing", .bytes (byteArr (ks.map sg)) t)]) ?ka ?kb ?kc ?kd ?ki ?ke ?kf ?kg ?_; (case ka => intro w; k_is); (case kb => intro w; k_is); (case kc => exact fun _ => BindsTo.of_eq rfl); (case kd => exact rfl); (case ki => decide +kernel); (case ke => exact rfl); (case kf => exact rfl); (case kg => exact rfl)
  clear kfill
  intro c s h tk m cells R O C ha hY hlt hR
  obtain ⟨o1, e1, hd⟩ := hY.one
  subst e1
  refine go_asgC (hc := by rfl) (hk := by rfl) (hx := by rfl) (hs := by rfl) (P := NewL (IntsAre · ks)) C ?_ (.head _) hd fun v tl h1 tk1 nw1 hv o C1 st => ?_
  · refine EvN.mono (EvN.comp (hcell := by decide) (hkind := by rfl) (hx := by rfl) (hnames := by decide) (hs := by intro _; rfl) (cl := []) (src_bytes O (.loc (hL := by rfl) (hk := by rfl) (hl := by rfl) (hd := by decide) (ha _ _ rfl) ⟨t, rfl⟩)) (.fix (K := fun i ys => IntsAre ys (ks.take i)) .nil fun i v ys I oI C oC D m₂ hi hv hK hC hx => ?_) (fun _ => trivial) (by rw [byteArr_size, List.length_map, sizeLine_eq]; exact Nat.le_trans hb (by decide)) (by rfl)) ?_
    · obtain ⟨x, u, hx1, e⟩ := hv
      subst e
      obtain ⟨y, hy, e⟩ := sg_at hx1
      rw [e] at hx
      have hb1 := hks y (List.mem_of_getElem? hy)
      have := sg_bound y
      refine Ev.mono (Ev.smeth (he := by rfl) (hs := by rfl) g_find s_find (.of (.def0 (hk := by rfl) (hx := by rfl) (hg := by rfl) (hd := by decide) (he := by rfl) O d_signs (z_signs _))) (.bi (hk := by rfl) (hx := by rfl) (hg := by rfl) (hb := by rfl) (hd := by decide) (he := by rfl) (hs := by rfl) (hp := by rfl) O g_chr (bz_chr this.1 this.2) (.one (hs := by rfl) (.own (hk := by rfl) (hl := by rfl) (hd := by decide) rfl (.tail _ (.head _)) hC hx ⟨u, rfl⟩)))) fun v hv => ?_
      rw [find_sg hb1] at hv
      rw [List.take_add_one, hy]
      exact ints_snoc hK hv
    · rintro v tl ⟨D, ys, tl', e, e1, e2, hK⟩
      subst e2
      rw [byteArr_size, List.length_map, List.take_length] at hK
      exact ⟨D, ys, _, e, e1, hK⟩
  · obtain ⟨l, vs, nn, e, e1, hvs⟩ := hv
    subst e e1
    have hm : LAt vs nw1 l := LAt.sub ⟨nn, .head _⟩ st
    obtain ⟨o2, hc, hd2⟩ := st.at'
    have hsub : ∀ p ∈ nw, p ∈ nw1 := fun p hp => st.sub p (.tail _ (.tail _ hp)) (Or.inl (Nat.ne_of_lt (Nat.lt_succ_of_lt (hlt p hp))))
    clear st hd C o
    obtain ⟨r1, r2, r3⟩ := range_two _ hb h2
    have ef : ∀ {env : Env} {p : Pos} (q : List (Addr × Obj)) (_ : env.cells.lookup (Str.ofString "figures") = some (c.L + 1)) (_ : env.scope.kind = .function) (_ : env.kindOf (Str.ofString "figures") = some .cell), Ev c env m (q ++ nw1) (.Name (Str.ofString "figures") p) (· = .ref l) := fun q h1 h2 h3 => .cell (hb := by decide) h1 (List.mem_append_right _ hc) hd2 rfl h2 h3
    with_reducible refine go_retN (P := NewL (IntsAre · (pairsTo ks (ks.length / 2)))) C1 ?_ ?_
    · refine EvN.mono (EvN.comp (hcell := by decide) (hkind := by rfl) (hx := by rfl) (hnames := by decide) (hs := by intro _; rfl) (cl := [(Str.ofString "figures", c.L + 1)]) (src_range2 (hk := by rfl) (hx := by rfl) (hg := by rfl) (hb := by rfl) (he := by rfl) (hs := by rfl) (hs1 := by rfl) (hs2 := by rfl) (hp := by rfl) (n := ks.length / 2) O g_range .int (.bi (hk := by rfl) (hx := by rfl) (hg := by rfl) (hb := by rfl) (hd := by decide) (he := by rfl) (hs := by rfl) (hp := by rfl) O g_len (bz_lenL hm hvs.length (Nat.le_trans hb (by decide))) (.one (hs := by rfl) (ef [] rfl rfl rfl))) .int r3 r1 r2) (.fix (K := fun i ys => IntsAre ys (pairsTo ks i)) .nil fun i v ys I oI C oC D m₂ hi hv hK hC hx => ?_) (fun _ => trivial) (Nat.le_trans (Nat.div_le_self _ _) (Nat.le_trans hb (by decide))) (by rfl)) ?_
      · obtain ⟨⟨a1, a2, a3⟩, b1, b2, b3⟩ := ix_ok hi hb
        have h4 := getD_64 hks (0 + (i : Int) * 2).toNat
        have hm2 : LAt vs ((I, oI) :: (C, oC) :: (D, LCg.lst ys) :: nw1) l := hm.imp fun _ h => .tail _ (.tail _ (.tail _ h))
        refine Ev.mono (.bin op_add (.bin (op_mul (mul_ok ⟨h4.1, Int.lt_trans h4.2 (by decide)⟩)) (.ints (hs := by intro _ _ _; with_unfolding_all rfl) hm2 hvs a1 a2 a3 (ef [_, _, _] rfl rfl rfl) (.own (hk := by rfl) (hl := by rfl) (hd := by decide) rfl (.tail _ (.head _)) hC hx hv)) .int) (.ints (hs := by intro _ _ _; with_unfolding_all rfl) hm2 hvs b1 b2 b3 (ef [_, _, _] rfl rfl rfl) (.bin op_add (.own (hk := by rfl) (hl := by rfl) (hd := by decide) rfl (.tail _ (.head _)) hC hx hv) .int))) fun v hv => ?_
        rw [ix2a, ix2b] at hv
        rw [pairsTo_succ]
        exact ints_snoc hK hv
      · rintro v tl ⟨D, ys, tl', e, e1, e2, hK⟩
        subst e2
        exact ⟨D, ys, _, e, e1, hK⟩
    · exact fun v tl h3 tk3 hv o C3 => hR v tl h3 tk3 _ _ C3 (fun p hp => (List.mem_append.mp hp).elim (fun hp => List.mem_append_left _ hp) fun hp => List.mem_append_right _ (hsub p hp)) (fun q hq => o q (hsub q hq)) hv
end Mine

namespace Mine
structure Tells (os ms : List Int) : Prop where
  len : 3 * ms.length = 2 * os.length
  oct : ∀ x ∈ os, 0 ≤ x ∧ x < 256
  enc : (encIdx os os.length).length = 2 * ms.length
  idx : ∀ x ∈ encIdx os os.length, 0 ≤ x ∧ x < 64
  back : pairsTo (encIdx os os.length) ms.length = ms
theorem enc_cons (x y z : Int) (r : List Int) : ∀ i, encIdx (x :: y :: z :: r) (i + 3) = x / 4 :: (x % 4 * 16 + y / 16) :: (y % 16 * 4 + z / 64) :: z % 64 :: encIdx r i
  | 0 => rfl
  | i + 1 => by
    show encIdx (x :: y :: z :: r) (i + 3) ++ (if (i + 3) % 3 = 0 then [r.getD i 0 / 4] else if (i + 3) % 3 = 1 then [(x :: y :: z :: r).getD (i + 2) 0 % 4 * 16 + r.getD i 0 / 16] else [(x :: y :: z :: r).getD (i + 2) 0 % 16 * 4 + r.getD i 0 / 64, r.getD i 0 % 64]) = _
    rw [enc_cons x y z r i, encIdx, Nat.add_mod_right]
    cases i with
    | zero => rfl
    | succ i => rfl
theorem pairs_cons (a b : Int) (r : List Int) (i : Nat) : pairsTo (a :: b :: r) (i + 1) = (a * 64 + b) :: pairsTo r i := by
  unfold pairsTo
  rw [List.range_succ_eq_map, List.map_cons, List.map_map]
  rfl
theorem div_in {x p q : Int} (hp : 0 < p) (h : 0 ≤ x ∧ x < q * p) : 0 ≤ x / p ∧ x / p < q := ⟨Int.ediv_nonneg h.1 (Int.le_of_lt hp), Int.ediv_lt_of_lt_mul hp h.2⟩
theorem mod_in (x : Int) {p : Int} (hp : 0 < p) : 0 ≤ x % p ∧ x % p < p := ⟨Int.emod_nonneg _ (Int.ne_of_gt hp), Int.emod_lt_of_pos _ hp⟩
theorem two_in {u v : Int} (hu : 0 ≤ u ∧ u < 4) (hv : 0 ≤ v ∧ v < 16) : 0 ≤ u * 16 + v ∧ u * 16 + v < 64 := by omega
theorem two_in' {u v : Int} (hu : 0 ≤ u ∧ u < 16) (hv : 0 ≤ v ∧ v < 4) : 0 ≤ u * 4 + v ∧ u * 4 + v < 64 := by omega
theorem Tells.cons {x y z a b : Int} {os ms : List Int} (T : Tells os ms) (hx : 0 ≤ x ∧ x < 256) (hy : 0 ≤ y ∧ y < 256) (hz : 0 ≤ z ∧ z < 256) (ha : x / 4 * 64 + (x % 4 * 16 + y / 16) = a) (hb : (y % 16 * 4 + z / 64) * 64 + z % 64 = b) : Tells (x :: y :: z :: os) (a :: b :: ms) := by
  have e : encIdx (x :: y :: z :: os) (x :: y :: z :: os).length = _ := enc_cons x y z os os.length
  refine ⟨?_, List.forall_mem_cons.mpr ⟨hx, List.forall_mem_cons.mpr ⟨hy, List.forall_mem_cons.mpr ⟨hz, T.oct⟩⟩⟩, ?_, ?_, ?_⟩
  · show 3 * (ms.length + 2) = 2 * (os.length + 3)
    rw [Nat.mul_add, Nat.mul_add, T.len]
  · rw [e]
    exact congrArg (· + 4) T.enc
  · rw [e]
    exact List.forall_mem_cons.mpr ⟨div_in (by decide) hx, List.forall_mem_cons.mpr ⟨two_in (mod_in x (by decide)) (div_in (by decide) hy), List.forall_mem_cons.mpr ⟨two_in' (mod_in y (by decide)) (div_in (by decide) hz), List.forall_mem_cons.mpr ⟨mod_in z (by decide), T.idx⟩⟩⟩⟩
  · rw [e]
    show pairsTo _ (ms.length + 1 + 1) = _
    rw [pairs_cons, pairs_cons, ha, hb, T.back]
theorem uniq {a b c d : Int} (h : b + 4096 * a = d + 4096 * c) (hb : 0 ≤ b ∧ b < 4096) (hd : 0 ≤ d ∧ d < 4096) : c = a ∧ d = b := by
  have p := (Int.ediv_emod_unique (by decide)).mpr ⟨h, hb⟩
  have q := (Int.ediv_emod_unique (by decide)).mpr ⟨(rfl : d + 4096 * c = _), hd⟩
  exact ⟨q.1.symm.trans p.1, q.2.symm.trans p.2⟩
theorem trio_in {y0 z : Int} (h0 : 0 ≤ y0 ∧ y0 < 16) (h1 : 0 ≤ z ∧ z < 256) : 0 ≤ y0 * 256 + z ∧ y0 * 256 + z < 4096 := by omega
theorem trio_eq {A b x y1 y0 z : Int} (e : A + b = x * 65536 + (16 * y1 + y0) * 256 + z) : b + A = y0 * 256 + z + 4096 * (x * 16 + y1) := by omega
theorem trio_lin {a b x y z x1 x0 y1 y0 z1 z0 : Int} (e : a * 4096 + b = x * 65536 + y * 256 + z) (hb : 0 ≤ b ∧ b < 4096) (hx : 4 * x1 + x0 = x) (hy : 16 * y1 + y0 = y) (hz : 64 * z1 + z0 = z) (h0 : 0 ≤ y0 ∧ y0 < 16) (h1 : 0 ≤ z ∧ z < 256) : x1 * 64 + (x0 * 16 + y1) = a ∧ (y0 * 4 + z1) * 64 + z0 = b := by
  obtain ⟨e1, e2⟩ := uniq (Int.mul_comm a 4096 ▸ trio_eq (hy ▸ e)) hb (trio_in h0 h1)
  rw [← e1, ← e2, ← hx, ← hz, Int.add_mul, Int.mul_comm 4, Int.mul_assoc, Int.add_assoc, Int.add_mul, Int.mul_assoc, Int.mul_comm z1, Int.add_assoc]
  exact ⟨rfl, rfl⟩
theorem Tells.add {a b x y z : Int} {os ms : List Int} (T : Tells os ms) (e : a * 4096 + b = x * 65536 + y * 256 + z) (hb : 0 ≤ b ∧ b < 4096) (hx : 0 ≤ x ∧ x < 256) (hy : 0 ≤ y ∧ y < 256) (hz : 0 ≤ z ∧ z < 256) : Tells (x :: y :: z :: os) (a :: b :: ms) :=
  have q := trio_lin e hb (Int.mul_ediv_add_emod x 4) (Int.mul_ediv_add_emod y 16) (Int.mul_ediv_add_emod z 64) (mod_in y (by decide)) hz
  T.cons hx hy hz q.1 q.2
theorem rest_in {x p : Int} (h : 0 ≤ x ∧ x < p + 1) : 0 ≤ p - x ∧ p - x < p + 1 := ⟨Int.sub_nonneg_of_le (Int.le_of_lt_add_one h.2), Int.lt_add_one_of_le (Int.sub_le_self p h.1)⟩
theorem rest_eq {a b x y z : Int} (e : a * 4096 + b = x * 65536 + y * 256 + z) : (4095 - a) * 4096 + (4095 - b) = (255 - x) * 65536 + (255 - y) * 256 + (255 - z) := by
  rw [Int.sub_mul, Int.sub_mul, Int.sub_mul]
  generalize a * 4096 = A at *
  generalize x * 65536 = X at *
  generalize y * 256 = Y at *
  omega
theorem three {N x y q z : Int} (h1 : 256 * q + z = N) (h2 : 256 * x + y = q) : N = x * 65536 + y * 256 + z := by
  rw [← h1, ← h2, Int.mul_add, ← Int.mul_assoc, Int.mul_comm _ x, Int.mul_comm 256 y]
  rfl
theorem six {a b : Int} (ha : 0 ≤ a ∧ a < 4096) (hb : 0 ≤ b ∧ b < 4096) : 0 ≤ a * 4096 + b ∧ a * 4096 + b < 256 * 65536 := by omega
theorem octs_is {a b : Int} (ha : 0 ≤ a ∧ a < 4096) (hb : 0 ≤ b ∧ b < 4096) : ∃ x y z, octs a b = [x, y, z] ∧ (0 ≤ x ∧ x < 256) ∧ (0 ≤ y ∧ y < 256) ∧ (0 ≤ z ∧ z < 256) ∧ a * 4096 + b = x * 65536 + y * 256 + z := ⟨_, _, _, rfl, by
  rw [Int.fdiv_eq_ediv_of_nonneg _ (by decide), Int.fmod_eq_emod_of_nonneg _ (by decide), Int.fmod_eq_emod_of_nonneg _ (by decide), Int.fdiv_eq_ediv_of_nonneg _ (by decide)]
  exact ⟨div_in (by decide) (six ha hb), mod_in _ (by decide), mod_in _ (by decide), three (Int.mul_ediv_add_emod _ 256) ((congrArg (fun w => 256 * w + _) (Int.ediv_ediv_of_nonneg (x := a * 4096 + b) (y := 256) (z := 256) (by decide)).symm).trans (Int.mul_ediv_add_emod _ 256))⟩⟩
theorem octs_cons (a b : Int) (r : List Int) (i : Nat) : octetsTo (a :: b :: r) (i + 1) = octs a b ++ octetsTo r i := by
  unfold octetsTo
  rw [List.range_succ_eq_map, List.flatMap_cons, List.flatMap_map]
  rfl
theorem tells : ∀ (ns : List Int) (_ : ns.length % 2 = 0) (_ : ∀ x ∈ ns, 0 ≤ x ∧ x < 4096), Tells (octetsTo ns (ns.length / 2)) ns ∧ Tells ((octetsTo ns (ns.length / 2)).map fun x => 255 - x) (ns.map fun n => 4095 - n)
  | [], _, _ => ⟨⟨rfl, (fun _ h => nomatch h), rfl, (fun _ h => nomatch h), rfl⟩, ⟨rfl, (fun _ h => nomatch h), rfl, (fun _ h => nomatch h), rfl⟩⟩
  | [_], h, _ => nomatch h
  | a :: b :: r, h, hb => by
    obtain ⟨t1, t2⟩ := tells r ((Nat.add_mod_right r.length 2).symm.trans h) fun x hx => hb x (.tail _ (.tail _ hx))
    have e : octetsTo (a :: b :: r) ((a :: b :: r).length / 2) = octs a b ++ octetsTo r (r.length / 2) := by
      rw [← octs_cons, ← Nat.add_div_right _ (by decide)]
      rfl
    have ha := hb a (.head _)
    have hb := hb b (.tail _ (.head _))
    obtain ⟨x, y, z, e', hx, hy, hz, he⟩ := octs_is ha hb
    rw [e, e', List.map_append]
    exact ⟨t1.add he hb hx hy hz, t2.add (rest_eq he) (rest_in (p := 4095) hb) (rest_in (p := 255) hx) (rest_in (p := 255) hy) (rest_in (p := 255) hz)⟩
end Mine

namespace Mine
noncomputable def cpre {α : Type} [DecidableEq α] : List α → List α → List α
  | x :: xs, y :: ys => if x = y then x :: cpre xs ys else []
  | _, _ => []
section
variable {α β : Type} [DecidableEq α] [DecidableEq β]
theorem cpre_append (l a b : List α) : cpre (l ++ a) (l ++ b) = l ++ cpre a b := by
  induction l with
  | nil => rfl
  | cons x l ih => show (if x = x then x :: cpre (l ++ a) (l ++ b) else []) = _; rw [if_pos rfl, ih]; rfl
theorem cpre_left {k : α} {xs ys : List α} (h : ∀ y ∈ ys, y ≠ k) : cpre (k :: xs) ys = [] := by
  cases ys with
  | nil => rfl
  | cons y ys => exact if_neg fun e => h y (List.mem_cons_self) e.symm
theorem cpre_right {k : α} {xs ys : List α} (h : ∀ y ∈ ys, y ≠ k) : cpre ys (k :: xs) = [] := by
  cases ys with
  | nil => rfl
  | cons y ys => exact if_neg fun e => h y (List.mem_cons_self) e
theorem cpre_map (f : α → β) : ∀ (xs ys : List α), (∀ x ∈ xs, ∀ y ∈ ys, f x = f y → x = y) → cpre (xs.map f) (ys.map f) = (cpre xs ys).map f
  | [], _, _ => by cases ‹List α› <;> rfl
  | _ :: _, [], _ => rfl
  | x :: xs, y :: ys, h => by
    show (if f x = f y then f x :: cpre (xs.map f) (ys.map f) else []) = List.map f (if x = y then x :: cpre xs ys else [])
    by_cases e : x = y
    · rw [if_pos e, if_pos (congrArg f e), cpre_map f xs ys fun a ha b hb => h a (List.mem_cons_of_mem _ ha) b (List.mem_cons_of_mem _ hb)]; rfl
    · rw [if_neg e, if_neg fun q => e (h x List.mem_cons_self y List.mem_cons_self q)]; rfl
theorem cpre_self (xs : List α) : cpre xs xs = xs := by
  induction xs with
  | nil => rfl
  | cons x xs ih => show (if x = x then x :: cpre xs xs else []) = _; rw [if_pos rfl, ih]
end
theorem nameOf_inj : ∀ x, x < 12 → ∀ y, y < 12 → nameOf x = nameOf y → x = y := by decide +kernel
theorem nameOf_zero : ∀ x, x < 12 → nameOf x ≠ zeroWord := by decide +kernel
noncomputable def bitsFrom (n k : Nat) : List Nat := ((List.range (12 - k)).map (k + ·)).filter fun j => n.testBit j
theorem bits_cut (n k : Nat) (h : k ≤ 12) : bitsTo n 12 = bitsTo n k ++ bitsFrom n k := by
  refine (congrArg (bitsTo n) (Nat.add_sub_of_le h).symm).trans ?_
  unfold bitsTo bitsFrom
  rw [List.range_add, List.filter_append]
theorem from_on {n k : Nat} (h : k < 12) (hb : n.testBit k = true) : ∃ zs, bitsFrom n k = k :: zs := by
  unfold bitsFrom
  rw [show 12 - k = (11 - k) + 1 from Nat.succ_sub (Nat.le_of_lt_succ h), List.range_succ_eq_map, List.map_cons, Nat.add_zero, List.filter_cons_of_pos hb]
  exact ⟨_, rfl⟩
theorem from_off {n k : Nat} (hb : n.testBit k = false) : ∀ y ∈ bitsFrom n k, y ≠ k := fun y hy e => by
  have := (List.mem_filter.mp hy).2
  rw [e, hb] at this
  cases this
theorem below_same {n q k : Nat} (h : ∀ j, j < k → n.testBit j = q.testBit j) : bitsTo n k = bitsTo q k :=
  List.filter_congr fun j hj => by rw [h j (List.mem_range.mp hj)]
theorem cpre_bits {n q k : Nat} (hk : k < 12) (h : ∀ j, j < k → n.testBit j = q.testBit j) (hd : n.testBit k ≠ q.testBit k) : cpre (bitsTo n 12) (bitsTo q 12) = bitsTo n k := by
  rw [bits_cut n k (Nat.le_of_lt hk), bits_cut q k (Nat.le_of_lt hk), ← below_same h, cpre_append]
  cases hn : n.testBit k with
  | true =>
    obtain ⟨zs, e⟩ := from_on hk hn
    rw [e, cpre_left (from_off (by rw [hn] at hd; exact Bool.eq_false_iff.mpr (Ne.symm hd))), List.append_nil]
  | false =>
    obtain ⟨zs, e⟩ := from_on (n := q) hk (by rw [hn] at hd; exact Bool.of_not_eq_false (Ne.symm hd))
    rw [e, cpre_right (from_off hn), List.append_nil]
theorem bits_lt {n i j : Nat} (h : j ∈ bitsTo n i) : j < i := List.mem_range.mp (List.mem_filter.mp h).1
theorem bits_mod (n k : Nat) (hk : k ≤ 12) : bitsTo (n % 2 ^ k) 12 = bitsTo n k := by
  rw [bits_cut _ k hk, below_same (q := n) fun j hj => by rw [Nat.testBit_mod_two_pow, decide_eq_true hj, Bool.true_and]]
  refine (congrArg _ (List.filter_eq_nil_iff.mpr fun j hj => ?_)).trans (List.append_nil _)
  obtain ⟨i, _, e⟩ := List.mem_map.mp hj
  rw [← e, Nat.testBit_mod_two_pow, decide_eq_false (Nat.not_lt.mpr (Nat.le_add_right k i))]
  exact Bool.false_ne_true
noncomputable def diffTo (n m i : Nat) : List Nat := (List.range i).filter fun k => n.testBit k != m.testBit k
noncomputable def meetOf (n m : Nat) : Str := if n = m then wayOf (wordsOf n) else
  let least := 2 ^ (diffTo n m 12).headD 0
  if n % least = 0 then slash else wayOf (wordsOf (n % least))
theorem least_diff (n q i : Nat) : (∀ j, j < i → n.testBit j = q.testBit j) ∨ ∃ k, k < i ∧ (∀ j, j < k → n.testBit j = q.testBit j) ∧ n.testBit k ≠ q.testBit k := by
  induction i with
  | zero => exact Or.inl fun j hj => absurd hj (Nat.not_lt_zero j)
  | succ i ih =>
    rcases ih with h | ⟨k, hk, h, hd⟩
    · by_cases e : n.testBit i = q.testBit i
      · exact Or.inl fun j hj => by
          rcases Nat.lt_succ_iff_lt_or_eq.mp hj with hj | rfl
          · exact h j hj
          · exact e
      · exact Or.inr ⟨i, Nat.lt_succ_self i, h, e⟩
    · exact Or.inr ⟨k, Nat.lt_succ_of_lt hk, h, hd⟩
theorem diff_head {n q k : Nat} (hk : k < 12) (h : ∀ j, j < k → n.testBit j = q.testBit j) (hd : n.testBit k ≠ q.testBit k) : ∃ zs, diffTo n q 12 = k :: zs := by
  have e12 : 12 = k + ((11 - k) + 1) := (Nat.add_sub_of_le (Nat.le_of_lt hk)).symm.trans (congrArg _ (Nat.succ_sub (Nat.le_of_lt_succ hk)))
  have hk : (n.testBit k != q.testBit k) = true := bne_iff_ne.mpr hd
  rw [e12]
  unfold diffTo
  rw [List.range_add, List.filter_append, List.range_succ_eq_map, List.map_cons, Nat.add_zero, List.filter_cons_of_pos (p := fun k => n.testBit k != q.testBit k) hk, List.filter_eq_nil_iff.mpr fun j hj => by rw [h j (List.mem_range.mp hj), bne_self_eq_false]; exact Bool.false_ne_true]
  exact ⟨_, rfl⟩
theorem same_bits {n q : Nat} (hn : n < 4096) (hq : q < 4096) (h : ∀ j, j < 12 → n.testBit j = q.testBit j) : n = q := Nat.eq_of_testBit_eq fun j => by
  by_cases hj : j < 12
  · exact h j hj
  · have hp : 2 ^ 12 ≤ 2 ^ j := Nat.pow_le_pow_right (by decide) (Nat.not_lt.mp hj)
    rw [Nat.testBit_lt_two_pow (Nat.lt_of_lt_of_le hn hp), Nat.testBit_lt_two_pow (Nat.lt_of_lt_of_le hq hp)]
theorem cpre_words {n q : Nat} (hn : n ≠ 0) (hq : q ≠ 0) : cpre (wordsOf n) (wordsOf q) = (cpre (bitsTo n 12) (bitsTo q 12)).map nameOf := by
  unfold wordsOf
  rw [if_neg hn, if_neg hq]
  exact cpre_map _ _ _ fun x hx y hy e => nameOf_inj x (bits_lt hx) y (bits_lt hy) e
theorem words_apart {q : Nat} (hq : q ≠ 0) : ∀ y ∈ wordsOf q, y ≠ zeroWord := by
  unfold wordsOf
  rw [if_neg hq]
  intro y hy
  obtain ⟨x, hx, rfl⟩ := List.mem_map.mp hy
  exact nameOf_zero x (bits_lt hx)
theorem way_nil : wayOf [] = slash := by decide +kernel
theorem meet_law {n q : Nat} (hn : n < 4096) (hq : q < 4096) : wayOf (cpre (wordsOf n) (wordsOf q)) = meetOf n q := by
  unfold meetOf
  by_cases e : n = q
  · rw [if_pos e, e, cpre_self]
  rw [if_neg e]
  rcases least_diff n q 12 with h | ⟨k, hk, h, hd⟩
  · exact absurd (same_bits hn hq h) e
  obtain ⟨zs, ez⟩ := diff_head hk h hd
  rw [ez]
  show _ = if n % 2 ^ k = 0 then slash else wayOf (wordsOf (n % 2 ^ k))
  by_cases n0 : n = 0
  · subst n0
    rw [if_pos (Nat.zero_mod _), show wordsOf 0 = [zeroWord] from rfl, cpre_left (words_apart (Ne.symm e)), way_nil]
  by_cases q0 : q = 0
  · subst q0
    have : n % 2 ^ k = 0 := Nat.eq_of_testBit_eq fun j => by
      rw [Nat.testBit_mod_two_pow, Nat.zero_testBit]
      by_cases hj : j < k
      · rw [h j hj, Nat.zero_testBit, Bool.and_false]
      · rw [decide_eq_false hj, Bool.false_and]
    rw [if_pos this, show wordsOf 0 = [zeroWord] from rfl, cpre_right (words_apart n0), way_nil]
  rw [cpre_words n0 q0, cpre_bits hk h hd]
  by_cases m0 : n % 2 ^ k = 0
  · have : bitsTo n k = [] := by rw [← bits_mod n k (Nat.le_of_lt hk), m0]; rfl
    rw [if_pos m0, this]; exact way_nil
  · rw [if_neg m0]
    unfold wordsOf
    rw [if_neg m0, bits_mod n k (Nat.le_of_lt hk)]
theorem turned_root {n : Nat} (hn : n < 4096) : cpre (wordsOf n) (wordsOf (4095 - n)) = [] := by
  by_cases n0 : n = 0
  · subst n0
    exact cpre_left (words_apart (by decide))
  by_cases q0 : 4095 - n = 0
  · rw [q0]
    exact cpre_right (words_apart n0)
  rw [cpre_words n0 q0, cpre_bits (k := 0) (by decide) (fun j hj => absurd hj (Nat.not_lt_zero j)) (by
    rw [Nat.testBit_zero, Nat.testBit_zero]
    intro e
    have h := Nat.add_mod (4095 - n) n 2
    rw [Nat.sub_add_cancel (Nat.le_of_lt_succ hn)] at h
    cases Nat.mod_two_eq_zero_or_one n with
    | inl z => rw [Nat.mod_two_ne_one.mp fun q => absurd ((decide_eq_decide.mp e).mpr q) (by rw [z]; decide), z] at h; cases h
    | inr z => rw [(decide_eq_decide.mp e).mp z, z] at h; cases h)]
  rfl
end Mine

namespace Mine
theorem diff_some {n q : Nat} (hn : n < 4096) (hq : q < 4096) (e : n ≠ q) : ∃ k zs, diffTo n q 12 = k :: zs ∧ k < 12 ∧ ∀ j, j < k → n.testBit j = q.testBit j := by
  rcases least_diff n q 12 with h | ⟨k, hk, h, hd⟩
  · exact absurd (same_bits hn hq h) e
  · obtain ⟨zs, ez⟩ := diff_head hk h hd
    exact ⟨k, zs, ez, hk, h⟩
noncomputable def diffPows (n q i : Nat) : List Int := (diffTo n q i).map fun k => ((2 ^ k : Nat) : Int)
theorem diffPows_pos {n q : Nat} (hn : n < 4096) (hq : q < 4096) (e : n ≠ q) : 0 < (diffPows n q 12).length := by
  obtain ⟨k, zs, ez, _⟩ := diff_some hn hq e
  unfold diffPows
  rw [ez]
  simp
theorem least_is {n q : Nat} (hn : n < 4096) (hq : q < 4096) (e : n ≠ q) {M : Int} (hm : M ∈ diffPows n q 12) (hl : ∀ x, x ∈ diffPows n q 12 → M ≤ x) : M = ((2 ^ (diffTo n q 12).headD 0 : Nat) : Int) := by
  obtain ⟨k, zs, ez, hk, hj⟩ := diff_some hn hq e
  obtain ⟨j, hjm, rfl⟩ := List.mem_map.mp hm
  have h1 : ((2 ^ j : Nat) : Int) ≤ ((2 ^ k : Nat) : Int) := hl _ (List.mem_map.mpr ⟨k, by rw [ez]; exact .head _, rfl⟩)
  have h2 : 2 ^ j ≤ 2 ^ k := Int.ofNat_le.mp h1
  have h3 : j ≤ k := (Nat.pow_le_pow_iff_right (by decide)).mp h2
  have h4 : ¬ j < k := fun h => by
    have := (List.mem_filter.mp hjm).2
    rw [hj j h] at this
    simp at this
  rw [ez, Nat.le_antisymm h3 (Nat.not_lt.mp h4)]
  rfl
theorem least_pos (n q : Nat) : 0 < 2 ^ (diffTo n q 12).headD 0 := Nat.two_pow_pos _
theorem meet_same {n q : Nat} (h : (n : Int) = (q : Int)) : meetOf n q = wayOf (wordsOf n) := by
  unfold meetOf; rw [if_pos (Int.ofNat.inj h)]
noncomputable def restOf (n q : Nat) : Nat := n % 2 ^ (diffTo n q 12).headD 0
theorem rest_le (n q : Nat) : restOf n q ≤ n := Nat.mod_le _ _
theorem rest_int (n q : Nat) : Int.fmod (n : Int) ((2 ^ (diffTo n q 12).headD 0 : Nat) : Int) = (restOf n q : Int) := by
  rw [Int.fmod_eq_emod_of_nonneg _ (Int.natCast_nonneg _)]
  exact (Int.natCast_emod _ _).symm
theorem meet_nought {n q : Nat} (h : ¬ (n : Int) = (q : Int)) (h0 : (restOf n q : Int) = 0) : meetOf n q = slash := by
  unfold meetOf
  rw [if_neg fun e => h (congrArg Nat.cast e)]
  exact if_pos (Int.ofNat.inj h0)
theorem meet_rest {n q : Nat} (h : ¬ (n : Int) = (q : Int)) (h0 : ¬ (restOf n q : Int) = 0) : meetOf n q = wayOf (wordsOf (restOf n q)) := by
  unfold meetOf
  rw [if_neg fun e => h (congrArg Nat.cast e)]
  exact if_neg fun e => h0 (congrArg Nat.cast e)
end Mine

namespace Mine
theorem g_min : Gb (Str.ofString "min") (.builtin "min") := ⟨fun _ => by kernel_rfl, rfl, by decide⟩
theorem d_words : Gd (Str.ofString "_law_words") 184 := fun _ => ⟨by kernel_rfl, by kernel_rfl⟩
theorem diff_bit (n q i : Nat) : (((n.testBit i).toNat : Int) != ((q.testBit i).toNat : Int)) = (n.testBit i != q.testBit i) := by
  cases n.testBit i <;> cases q.testBit i <;> rfl
theorem diffTo_succ (n q i : Nat) : diffTo n q (i + 1) = diffTo n q i ++ if (n.testBit i != q.testBit i) = true then [i] else [] := by
  unfold diffTo
  rw [List.range_succ, List.filter_append, List.filter_cons, List.filter_nil]
theorem join_len (n : Nat) : (PySem.Txt.join slash (wordsOf n)).length ≤ 250 := by
  have h := (way_len (good_words n) (words_len n)).1
  unfold wayOf at h
  rw [Str.length_append] at h
  exact Nat.le_trans (Nat.le_add_left _ _) h
theorem way_fits (n : Nat) : slash.length + (PySem.Txt.join slash (wordsOf n)).length ≤ sizeLine := by
  rw [slen, sizeLine_eq]
  exact Nat.le_trans (Nat.add_le_add_left (join_len n) 1) (by decide)
theorem Ev.way {c : Cx} {env : Env} {m : Str → Option Value} {nw : List (Addr × Obj)} {a : Expr} {p1 p2 p3 p4 p5 p6 pf : Pos} {k1 k2 k n : Nat} {pl : Sem Bool} (O : Ok c k) (hk : 2 ≤ k) (hn : n < 4096) (ha : Ev c env m nw a (IsI n))
    (h1 : env.scope.kind = .function) (h2 : env.kindOf (Str.ofString "_law_words") = some .globalImplicit) (h3 : env.globals = mainGlobals)
    (he : eval (.Call (.Name (Str.ofString "_law_words") pf) [a] [] p4) env = (do callWith p4 (← eval (.Name (Str.ofString "_law_words") pf) env) [] (backTo p4 (starEach [a] env)) (backToKw p4 (keywordEach [] env)))) (hs : starEach [a] env = (false, eval a env) :: starEach [] env)
    (hj : eval (.Call (.Attribute (.Constant (.str slash) k2 p2) (Str.ofString "join") p3) [.Call (.Name (Str.ofString "_law_words") pf) [a] [] p4] [] p5) env = (do
      let ov ← eval (.Constant (.str slash) k2 p2) env
      standAt p3.atName
      let (f, first) ← holding [ov] (getMethod ov (Str.ofString "join") pl)
      callWith p5 f first (backTo p5 (starEach [.Call (.Name (Str.ofString "_law_words") pf) [a] [] p4] env)) [])) :
    Ev c env m nw (.BinOp (.Constant (.str slash) k1 p1) .Add (.Call (.Attribute (.Constant (.str slash) k2 p2) (Str.ofString "join") p3) [.Call (.Name (Str.ofString "_law_words") pf) [a] [] p4] [] p5) p6) (IsS (wayOf (wordsOf n))) :=
  .binR (op_adds (way_fits n)) .str (.joinN (by decide) (weight_words n) .str (.def (O.le hk) d_words (.one ha hs) (z_words n nw hn) h1 h2 h3 (by decide) he hs rfl) hj rfl)
theorem z_meet (n q : Nat) (nw : List (Addr × Obj)) (h1 : n < 4096) (hq : q < 4096) (vs : List Value) (hv : ∃ v u, vs = [v, u] ∧ IsI n v ∧ IsI q u) : Dz 3 208 vs nw (fun r tl => IsS (meetOf n q) r ∧ tl = []) := by
  obtain ⟨v, u, e, ⟨t, e1⟩, t2, e2⟩ := hv
  subst e e1 e2
  have kfill : Mine.trow = Mine.trow ∧ hd0183.heap_39 = hd0183.heap_39 := by k_fill; exact ⟨rfl, rfl⟩
  refine' Mine.enterC (binds := [(Str.ofString "one", .int ((n : Nat) : Int) t), (Str.ofString "other", .int ((q : Nat) : Int) t2)]) ?ka ?kb ?kc ?kd ?ki ?ke ?kf ?kg ?_; (case ka => intro w; k_is); (case kb => intro w; k_is); (case kc => exact fun _ => BindsTo.of_eq rfl); (case kd => exact rfl); (case ki => decide +kernel); (case ke => exact rfl); (case kf => exact rfl); (case kg => exact rfl)
  clear kfill
  intro c s h tk m cells R O C ha hY hlt hR
  obtain ⟨o2, o1, e1, hd2, hd1⟩ := hY.two
  subst e1
  have hd1 : o1.data = .cell (some (.int ((n : Nat) : Int) t)) := hd1
  have hd2 : o2.data = .cell (some (.int ((q : Nat) : Int) t2)) := hd2
  have eo : ∀ {env : Env} {p : Pos} {m : Str → Option Value} (r : List (Addr × Obj)) (_ : env.cells.lookup (Str.ofString "one") = some (c.L + 1)) (_ : env.scope.kind = .function) (_ : env.kindOf (Str.ofString "one") = some .cell), Ev c env m (r ++ (c.L + 2, o2) :: (c.L + 1, o1) :: nw) (.Name (Str.ofString "one") p) (IsI n) := fun r h1 h2 h3 => .cell (hb := by decide) h1 (List.mem_append_right _ (.tail _ (.head _))) hd1 ⟨t, rfl⟩ h2 h3
  have ex : ∀ {env : Env} {p : Pos} {m : Str → Option Value} (r : List (Addr × Obj)) (_ : env.cells.lookup (Str.ofString "other") = some (c.L + 2)) (_ : env.scope.kind = .function) (_ : env.kindOf (Str.ofString "other") = some .cell), Ev c env m (r ++ (c.L + 2, o2) :: (c.L + 1, o1) :: nw) (.Name (Str.ofString "other") p) (IsI q) := fun r h1 h2 h3 => .cell (hb := by decide) h1 (List.mem_append_right _ (.head _)) hd2 ⟨t2, rfl⟩ h2 h3
  clear hd1 hd2
  have ret : ∀ v h' tk' m', IsS (meetOf n q) v → Cur c m' ((c.L + 2, o2) :: (c.L + 1, o1) :: nw) h' → R (.ret v) { s with heap := h', toks := tk' } := fun v h' tk' m' hv C' => hR v [] h' tk' _ _ C' (fun p hp => .tail _ (.tail _ hp)) no_ord ⟨hv, rfl⟩
  clear hR
  refine go_ite C (.cmp (hm := by with_unfolding_all rfl) cmp_eq (eo [] rfl rfl rfl) (ex [] rfl rfl rfl)) (fun h2 tk2 C2 hb => ?_) fun h2 tk2 C2 hb => Then.nil ?_
  · refine go_ret C2 (P := IsS (wayOf (wordsOf n))) (.way (h1 := by rfl) (h2 := by rfl) (h3 := by rfl) (he := by rfl) (hs := by rfl) (hj := by rfl) O (by decide) h1 (eo [] rfl rfl rfl)) fun v h3 tk3 hv C3 => ret v h3 tk3 _ (meet_same (of_decide_eq_true hb) ▸ hv) C3
  · have he : ¬ ((n : Nat) : Int) = ((q : Nat) : Int) := of_decide_eq_false hb
    have hne : n ≠ q := fun e => he (congrArg Nat.cast e)
    refine go_asg (hL := by rfl) (hl := by rfl) (hp := by rfl) (hs := by rfl) C2 (P := IsI ((2 ^ (diffTo n q 12).headD 0 : Nat) : Int)) (.biN (hk := by rfl) (hx := by rfl) (hg := by rfl) (hb := by rfl) (hd := by decide) (he := by rfl) (hs := by rfl) O g_min (fun v tl hv => ?_) (.compT (hcell := by decide) (hkind := by rfl) (hx := by rfl) (hnames := by decide) (hs := by intro _; rfl) (cl := [(Str.ofString "other", c.L + 2), (Str.ofString "one", c.L + 1)]) (n := 12) (P := fun i => IsI (0 + (i : Int) * 1)) (S := fun _ => True) (K := fun i ys => IntsAre ys (diffPows n q i)) (src_range (hk := by rfl) (hx := by rfl) (hg := by rfl) (hb := by rfl) (he := by rfl) (hs := by rfl) O g_range .int (by decide) (by rfl)) .nil (fun i v ys I oI C oC D m₂ hi hv hK hC hx => ⟨n.testBit i != q.testBit i, .as (.cmp (hm := by with_unfolding_all rfl) cmp_ne (.bit hi (eo [_, _, _] rfl rfl rfl) (.own (hk := by rfl) (hl := by rfl) (hd := by decide) rfl (.tail _ (.head _)) hC hx (ix_z hv))) (.bit hi (ex [_, _, _] rfl rfl rfl) (.own (hk := by rfl) (hl := by rfl) (hd := by decide) rfl (.tail _ (.head _)) hC hx (ix_z hv)))) (diff_bit n q i), fun hb => ?_, fun hb => ?_⟩) (by decide) (by rfl))) fun v m3 h3 tk3 hv C3 el _ => ?_
    · obtain ⟨l, vs, nn, e, e1, hvs⟩ := hv
      subst e e1
      exact fun s h tk Q C kq E => kso_min (s := { s with heap := h, toks := tk }) C.F C.N (C.N.isList (.head _)) hvs (diffPows_pos h1 hq hne) O.hh fun h' M t' k' F' N' a b => kq _ h' k' ⟨F', N'⟩ ⟨t', by rw [least_is h1 hq hne a b]⟩
    · refine Ev.mono (.pow2 hi (.own (hk := by rfl) (hl := by rfl) (hd := by decide) rfl (.tail _ (.head _)) hC hx (ix_z hv))) fun v hv => ?_
      unfold diffPows
      rw [diffTo_succ, if_pos hb, List.map_append]
      exact ints_snoc hK hv
    · unfold diffPows
      rw [diffTo_succ, if_neg (by rw [hb]; exact Bool.false_ne_true), List.append_nil]
      exact hK
    · have hr := rest_int n q
      refine go_ite C3 (.cmp (hm := by with_unfolding_all rfl) cmp_eq (.bin (op_mod (Int.ne_of_gt (Int.ofNat_lt.mpr (least_pos n q)))) (eo [] rfl rfl rfl) (.loc (hL := by rfl) (hk := by rfl) (hl := by rfl) (hd := by decide) el hv)) .int) (fun h4 tk4 C4 hb => ?_) fun h4 tk4 C4 hb => Then.nil ?_
      · rw [hr] at hb
        exact go_ret C4 .str fun v h5 tk5 hv C5 => ret v h5 tk5 _ (meet_nought he (of_decide_eq_true hb) ▸ hv) C5
      · rw [hr] at hb
        exact go_ret C4 (.way (h1 := by rfl) (h2 := by rfl) (h3 := by rfl) (he := by rfl) (hs := by rfl) (hj := by rfl) O (by decide) (Nat.lt_of_le_of_lt (rest_le n q) h1) (hr ▸ .bin (op_mod (Int.ne_of_gt (Int.ofNat_lt.mpr (least_pos n q)))) (eo [] rfl rfl rfl) (.loc (hL := by rfl) (hk := by rfl) (hl := by rfl) (hd := by decide) el hv))) fun v h5 tk5 hv C5 => ret v h5 tk5 _ (meet_rest he (of_decide_eq_false hb) ▸ hv) C5
end Mine

namespace Mine
section
variable {prog : Program} {w : World} {A : Around} {E : Value → Shared → Prop} {s : Shared}
noncomputable abbrev byText (prog : Program) (w : World) : Bool := (Setting.mk prog w.params).params.followText "set-order"
noncomputable abbrev setObj (es : Array (Int × Value)) (n : Nat) (t : SetTable) : Obj := { cls := .type "set", dict := none, data := .set es n t }
noncomputable def set0 (prog : Program) (w : World) : Obj := setObj #[] 0 (.fresh 0 0 (!(byText prog w)))
noncomputable def set1 (prog : Program) (w : World) : Obj := setObj #[(1, .bool true)] 1 { mask := 7, place := #[1], dummies := #[], finger := 0, led := !(byText prog w), moves := 0, plain := true }
theorem new_set {Q : Value → Shared → Prop} (h : Q (.ref s.heap.objs.size) { s with heap := s.heap.push (set0 prog w) }) : wpAny (model prog w) A (newSet (.type "set")) Q E s := by
  unfold newSet setsByText
  refine wpAny_bind (wpAny_bind (wpAny_askSetting (wpAny_pure ?_)))
  dsimp only
  simp only [newObj]
  refine wpAny_bind (wpAny_alloc (wpAny_pure ?_))
  exact h
theorem hash_true {Q : Int → Shared → Prop} (h : Q 1 { s with toks := s.toks + 1 }) : wpAny (model prog w) A (pyHash (.bool true)) Q E s := by
  unfold pyHash
  have hv : [Value.bool true].any Value.onHeap = false := rfl
  refine wpAny_bind ?_
  rw [cRoomFor, if_neg (by rw [hv]; exact Bool.false_ne_true)]; refine wpAny_pure ?_
  have hT : s.TypeIs (.bool true) "bool" := rfl
  refine wpAny_bind (wpAny_specialOf hT F.slot_bool_hash.lookup ?_)
  show wpAny _ _ (if (some (Value.builtin "int.__hash__") == some Value.none) = true then _ else _) Q E s
  rw [if_neg (by rw [beq_builtin_none]; exact Bool.false_ne_true)]
  refine wpAny_bind (wpAny_specialOf hT F.slot_bool_hash.lookup ?_)
  show wpAny _ _ (callSpecialIfBoundUnlessNone? (.bool true) "__hash__" _ >>= _) Q E s
  refine wpAny_bind (wpAny_callSpecialIfBoundUnlessNone?_slot hT F.slot_bool_hash
    (wpAny_call_entry F.slot_bool_hash hT entry_int_hash
      (show wpAny _ _ (do ret (← mkInt 1)) _ _ s from wpAny_ret_mkInt ?_) (args_int_hash _)))
  exact wpAny_pure h
theorem update_set {h : Heap} {a : Addr} {es es' : Array (Int × Value)} {n : Nat} {t t' : SetTable} (ho : h.get? a = some (setObj es n t)) :
    (h.update a (Obj.putSet es' t')).get? a = some (setObj es' (n + 1) t') := by
  have := Heap.get?_update_self (Obj.putSet es' t') ho rfl
  exact this
theorem lay_true (led : Bool) : layNew (.fresh 0 0 led) #[] 1 (.bool true) = (#[(1, .bool true)], { mask := 7, place := #[1], dummies := #[], finger := 0, led := led, moves := 0, plain := true }, false, false) := by cases led <;> kernel_rfl
theorem add_true0 {a : Addr} {Q : Value → Shared → Prop} (ho : s.heap.get? a = some (set0 prog w))
    (h : ∀ h' tk', Heap.SameBut a s.heap h' → h'.get? a = some (set1 prog w) → Q .none { s with heap := h', toks := tk' }) :
    wpAny (model prog w) A (call (.builtin "set.add") [.ref a, .bool true]) Q E s := by
  have hT : s.TypeIs (.ref a) "set" := ⟨_, ho, rfl⟩
  refine wpAny_call_entry F.slot_set_add hT F.entry_set_add ?_ (F.args_set_add_2 _ _)
  unfold Builtin.«set.add» Builtin.Frozenset.oneOther
  simp only [List.isEmpty_nil, bind_assoc]
  unfold Builtin.Frozenset.addrOf setAdd
  refine wpAny_bind (wpAny_pure ?_)
  try dsimp only
  refine wpAny_bind (wpAny_pure ?_)
  try dsimp only
  refine wpAny_bind ?_
  refine wpAny_holding ?_
  refine wpAny_bind (hash_true ?_)
  unfold setAddHashed setAddHashedIn
  refine wpAny_holding (wpAny_bind (wpAny_setState_of ho rfl rfl ?_))
  dsimp only
  rw [show byScan (.bool true) #[] = true by decide +kernel]
  simp only [↓reduceIte]
  unfold setAddByScan
  refine wpAny_bind ?_
  refine wpAny_bind (wpAny_rule ?_)
  refine wpAny_bind (show wpAny _ _ (pure ScanMet.absent) _ _ _ from wpAny_pure ?_)
  dsimp only
  simp only [lay_true]
  refine wpAny_bind (show wpAny _ _ (pure ()) _ _ _ from wpAny_pure ?_)
  simp only [↓reduceIte]
  refine wpAny_bind ?_
  rw [hashByValue_scannable 8 rfl]
  refine wpAny_pure ?_
  try simp only [↓reduceIte]
  refine wpAny_bind (wpAny_storeSet_of ho rfl ?_ (by decide))
  rw [if_neg (by cases (byText prog w) <;> decide)]
  refine wpAny_pure (wpAny_pure ?_)
  exact wpAny_pure ⟨_, rfl, h _ _ (Heap.SameBut.update ..) (update_set ho)⟩
theorem add_true1 {a : Addr} {Q : Value → Shared → Prop} (ho : s.heap.get? a = some (set1 prog w))
    (h : ∀ tk', Q .none { s with toks := tk' }) :
    wpAny (model prog w) A (call (.builtin "set.add") [.ref a, .bool true]) Q E s := by
  have hT : s.TypeIs (.ref a) "set" := ⟨_, ho, rfl⟩
  refine wpAny_call_entry F.slot_set_add hT F.entry_set_add ?_ (F.args_set_add_2 _ _)
  unfold Builtin.«set.add» Builtin.Frozenset.oneOther
  simp only [List.isEmpty_nil, bind_assoc]
  unfold Builtin.Frozenset.addrOf setAdd
  refine wpAny_bind (wpAny_pure ?_)
  try dsimp only
  refine wpAny_bind (wpAny_pure ?_)
  try dsimp only
  refine wpAny_bind ?_
  refine wpAny_holding ?_
  refine wpAny_bind (hash_true ?_)
  unfold setAddHashed setAddHashedIn
  refine wpAny_holding (wpAny_bind (wpAny_setState_of ho rfl rfl ?_))
  dsimp only
  rw [show byScan (.bool true) #[(1, .bool true)] = true by decide +kernel]
  simp only [↓reduceIte]
  unfold setAddByScan
  refine wpAny_bind ?_
  refine wpAny_bind (wpAny_rule ?_)
  show wpAny _ _ (setScanFrom a (.bool true) 1 true [(1, .bool true)] 0 >>= _) _ _ _
  unfold setScanFrom
  rw [if_pos (by decide)]
  refine wpAny_bind ?_
  refine wpAny_bind (wpAny_setEpoch_of ho rfl rfl ?_)
  unfold eqBool
  refine wpAny_bind (wpAny_holding ?_)
  rw [if_pos (by decide)]
  refine wpAny_bind (wpAny_rule (wpAny_pure ?_))
  rw [if_pos (by decide)]
  refine wpAny_pure (wpAny_pure (wpAny_pure ?_))
  exact wpAny_pure ⟨_, rfl, h _⟩
theorem entry_set_iter : entryFor table "set.__iter__" = some Builtin.«frozenset.__iter__» :=
  entryFor_alias (id' := "frozenset.__iter__") (by kernel_rfl) rfl (by decide +kernel) (by kernel_rfl)
theorem owner_seti : Manifest.owners.lookup (String.ofList ['r', 'o', 't', 'a', 'r', 'e', 't', 'i', '_', 't', 'e', 's'].reverse) = some Manifest.sig_set_iterator := by kernel_rfl
theorem slot_seti_next : Slot "set_iterator" "__next__" "set_iterator.__next__" :=
  .of (owner := "set_iterator") (n := "__next__") (by rw [typeLookup_type, builtinLookup_eq_fast]; kernel_rfl) (by decide +kernel) (by decide +kernel) (by decide +kernel)
    (by first | exact .inl (by decide +kernel) | exact .inr (by decide +kernel)) (by rw [isSubtype_type]; kernel_rfl)
theorem entry_seti_next : entryFor table "set_iterator.__next__" = some Builtin.«set_iterator.__next__» := entryFor_of_tree (by kernel_rfl)
theorem args_seti_next (a : Value) : argsOk "set_iterator.__next__" ⟨[a], []⟩ := by
  unfold argsOk; rw [signature?_of (id := "set_iterator.__next__") (n := ['_', '_', 't', 'x', 'e', 'n', '_', '_']) (o := ['r', 'o', 't', 'a', 'r', 'e', 't', 'i', '_', 't', 'e', 's']) (by kernel_rfl) owner_seti]; kernel_rfl
noncomputable abbrev setiObj (f : Value) (i : Value) (a : Addr) : Obj := { cls := .type "set_iterator", dict := none, data := .fields #[f, i, .ref a, rawInt 1, rawInt 1], slots := #[] }
theorem iter_set1 {a : Addr} {Q : Value → Shared → Prop} (ho : s.heap.get? a = some (set1 prog w))
    (h : Q (.ref s.heap.objs.size) { s with heap := s.heap.push (setiObj (rawInt 0) (rawInt 0) a) }) : wpAny (model prog w) A (pyIter (.ref a)) Q E s := by
  have hT : s.TypeIs (.ref a) "set" := ⟨_, ho, rfl⟩
  refine wpAny_pyIter_slot hT F.slot_set_iter (wpAny_call_entry F.slot_set_iter hT entry_set_iter ?_ (F.args_set_iter_1 _))
  unfold Builtin.«frozenset.__iter__» Builtin.Frozenset.slot0 slotArgs
  simp only [List.isEmpty_nil, Bool.not_true, Bool.false_eq_true, ↓reduceIte, bind_assoc, List.length_nil, bne_self_eq_false]
  unfold Builtin.Frozenset.addrOf Builtin.Frozenset.sizeOf
  refine wpAny_bind (wpAny_pure ?_)
  try dsimp only
  refine wpAny_bind (wpAny_pure ?_)
  refine wpAny_bind (wpAny_bind (wpAny_setEntries_of ho rfl rfl (wpAny_pure ?_)))
  unfold setDrawn
  refine wpAny_bind (wpAny_bind (wpAny_setState_of ho rfl rfl ?_))
  dsimp only
  unfold setsByText
  refine wpAny_bind (wpAny_bind (wpAny_askSetting (wpAny_pure ?_)))
  refine wpAny_pure ?_
  show wpAny _ _ (if (!(byText prog w) && false) = true then _ else _) _ _ _
  rw [if_neg (by simp)]
  refine wpAny_bind (wpAny_pure ?_)
  refine wpAny_bind (wpAny_setEpoch_of ho rfl rfl ?_)
  unfold newFields
  refine wpAny_bind (wpAny_newObj_type ?_)
  exact wpAny_pure ⟨_, rfl, "set_iterator", _, ⟨_, Heap.get?_push_size _ rfl, rfl⟩, slot_seti_next.lookup, h⟩
theorem pick_one {α : Type} (f : Nat → Nat) (x : α) : pickOrder f #[x] = #[x] := by
  simp [pickOrder, pickOrder.go, Nat.mod_one]
theorem walk_one {a : Addr} {Q : Array (Int × Value) → Shared → Prop} (hb : byText prog w = true) (ho : s.heap.get? a = some (set1 prog w)) (hQ : Q #[(1, .bool true)] s) : wpAny (model prog w) A (setWalk a) Q E s := by
  unfold setWalk
  refine wpAny_bind (wpAny_setState_of ho rfl rfl ?_)
  dsimp only
  unfold setsByText
  refine wpAny_bind (wpAny_bind (wpAny_askSetting (wpAny_pure ?_)))
  show wpAny _ _ (if byText prog w = true then _ else _) _ _ _
  rw [if_pos hb]
  refine wpAny_bind (wpAny_askSetting (wpAny_pure ?_))
  rw [pick_one]
  exact hQ
theorem set_next0 {a : Addr} {Q : Option (Value × Nat) → Shared → Prop} (ho : s.heap.get? a = some (set1 prog w)) (hQ : Q (some (.bool true, if byText prog w = true then 0 else 2)) s) : wpAny (model prog w) A (setNext a 0 0 1) Q E s := by
  unfold setNext
  refine wpAny_bind (wpAny_setState_of ho rfl rfl ?_)
  dsimp only
  unfold setsByText
  refine wpAny_bind (wpAny_bind (wpAny_askSetting (wpAny_pure ?_)))
  show wpAny _ _ (if byText prog w = true then _ else _) _ _ _
  by_cases hb : byText prog w = true
  · rw [if_pos hb, if_neg (by decide)]
    rw [if_pos hb] at hQ
    exact wpAny_bind (walk_one hb ho (wpAny_pure hQ))
  · rw [if_neg hb] at hQ
    have hb' : byText prog w = false := by cases h : byText prog w; rfl; exact absurd h hb
    rw [if_neg hb]
    refine wpAny_bind ?_
    rw [hb']
    exact wpAny_pure (wpAny_pure hQ)
theorem set_next1 {a : Addr} {Q : Option (Value × Nat) → Shared → Prop} (ho : s.heap.get? a = some (set1 prog w)) (hQ : Q none s) : wpAny (model prog w) A (setNext a (if byText prog w = true then 0 else 2) 1 1) Q E s := by
  unfold setNext
  refine wpAny_bind (wpAny_setState_of ho rfl rfl ?_)
  dsimp only
  unfold setsByText
  refine wpAny_bind (wpAny_bind (wpAny_askSetting (wpAny_pure ?_)))
  show wpAny _ _ (if byText prog w = true then _ else _) _ _ _
  by_cases hb : byText prog w = true
  · rw [if_pos hb, if_neg (by decide)]
    exact wpAny_bind (walk_one hb ho (wpAny_pure hQ))
  · have hb' : byText prog w = false := by cases h : byText prog w; rfl; exact absurd h hb
    rw [if_neg hb]
    refine wpAny_bind ?_
    rw [hb']
    exact wpAny_pure (wpAny_pure hQ)
theorem seti_next0 {I a : Addr} {Q : Option Value → Shared → Prop} (hI : s.heap.get? I = some (setiObj (rawInt 0) (rawInt 0) a)) (ho : s.heap.get? a = some (set1 prog w)) (hne : @Ne Nat a I)
    (hQ : ∀ h', Heap.SameBut I s.heap h' → h'.get? I = some (setiObj (rawInt (if byText prog w = true then 0 else 2)) (rawInt 1) a) → Q (some (.bool true)) { s with heap := h' }) : wpAny (model prog w) A (pyNext (.ref I)) Q E s := by
  have hT : s.TypeIs (.ref I) "set_iterator" := ⟨_, hI, rfl⟩
  unfold pyNext
  refine wpAny_bind (wpAny_attempt (wpAny_callSpecial?_slot (name := Str.ofString "__next__") hT slot_seti_next (wpAny_call_entry slot_seti_next hT entry_seti_next ?_ (args_seti_next _))))
  show wpAny _ _ (fieldsOf (.ref I) >>= _) _ _ _
  refine wpAny_bind (wpAny_fieldsOf hI rfl ?_)
  show wpAny _ _ (setEntries a >>= _) _ _ _
  refine wpAny_bind (wpAny_setEntries_of ho rfl rfl ?_)
  rw [if_neg (by decide)]
  show wpAny _ _ (setNext a 0 0 1 >>= _) _ _ _
  refine wpAny_bind (set_next0 ho ?_)
  dsimp only
  refine wpAny_bind (wpAny_setField_rec hI (by simp) fun h₁ hI₁ hs₁ => ?_)
  refine wpAny_bind (wpAny_setField_rec hI₁ (by simp) fun h₂ hI₂ hs₂ => ?_)
  refine wpAny_pure ⟨_, rfl, wpAny_pure (hQ h₂ (hs₁.trans hs₂) ?_)⟩
  rw [hI₂]
  split <;> rfl
theorem seti_next1 {I a : Addr} {Q : Option Value → Shared → Prop} (hh : A.handled = none) (hI : s.heap.get? I = some (setiObj (rawInt (if byText prog w = true then 0 else 2)) (rawInt 1) a)) (ho : s.heap.get? a = some (set1 prog w)) (hne : @Ne Nat a I)
    (hQ : ∀ h', Heap.ExtBut I s.heap h' → Q none { s with heap := h' }) : wpAny (model prog w) A (pyNext (.ref I)) Q E s := by
  have hT : s.TypeIs (.ref I) "set_iterator" := ⟨_, hI, rfl⟩
  unfold pyNext
  refine wpAny_bind (wpAny_attempt (wpAny_callSpecial?_slot (name := Str.ofString "__next__") hT slot_seti_next (wpAny_call_entry slot_seti_next hT entry_seti_next ?_ (args_seti_next _))))
  show wpAny _ _ (fieldsOf (.ref I) >>= _) _ _ _
  refine wpAny_bind (wpAny_fieldsOf hI rfl ?_)
  show wpAny _ _ (setEntries a >>= _) _ _ _
  refine wpAny_bind (wpAny_setEntries_of ho rfl rfl ?_)
  rw [if_neg (by decide)]
  show wpAny _ _ (setNext a (if byText prog w = true then (0 : Int) else 2).toNat 1 1 >>= _) _ _ _
  rw [show (if byText prog w = true then (0 : Int) else 2).toNat = if byText prog w = true then 0 else 2 by split <;> rfl]
  refine wpAny_bind (set_next1 ho ?_)
  dsimp only
  refine wpAny_bind (wpAny_setField_rec hI (by simp) fun h₁ hI₁ hs₁ => ?_)
  show wpAny _ _ (newExc (.type "StopIteration") [] >>= _) _ _ _
  refine wpAny_bind ?_
  simp only [newExc, newTuple]
  refine wpAny_bind (wpAny_newObj_type ?_ (by size_fits))
  refine wpAny_bind (m := firstArgMember _ _) (wpAny_of_eq (a := Value.none) (by first | rfl | (simp only [firstArgMember]; rfl)) ?_)
  refine wpAny_newObj_type ?_ (by size_fits)
  simp only [raiseNew]
  refine wpAny_bind (wpAny_handled ?_)
  rw [show A.in1.handled = none from hh]
  refine wpAny_bind (wpAny_pure (wpAny_throw ?_))
  refine wpAny_bind (wpAny_isInstance (T := "StopIteration") (b := true) ⟨_, Heap.get?_push_size _ rfl, rfl⟩ isSubtype_stop ?_)
  exact wpAny_pure (hQ _ ((hs₁.extBut.push _).push _))
theorem items_set1 {a : Addr} {Q : List Value → Shared → Prop} (hh : A.handled = none) (ho : s.heap.get? a = some (set1 prog w))
    (hQ : ∀ h', Heap.ExtBut s.heap.objs.size s.heap h' → Q [.bool true] { s with heap := h' }) : wpAny (model prog w) A (unpackItems (.ref a) 1 none) Q E s := by
  have hT : s.TypeIs (.ref a) "set" := ⟨_, ho, rfl⟩
  have hlt : @Ne Nat a s.heap.objs.size := Nat.ne_of_lt (Heap.lt_size ho)
  unfold unpackItems
  refine wpAny_bind ?_
  unfold notIterableAtAll
  refine wpAny_bind (wpAny_specialOf hT F.slot_set_iter.lookup ?_)
  refine wpAny_pure ?_
  simp only [Bool.false_eq_true, if_false]
  refine wpAny_bind (wpAny_holding (iter_set1 ho ?_))
  refine wpAny_bind (wpAny_holding ?_)
  show wpAny _ _ (pyNext (.ref s.heap.objs.size) >>= _) _ _ _
  refine wpAny_bind (seti_next0 (Heap.get?_push_size _ rfl) (Heap.get?_push_of_some _ ho) hlt fun h₁ hs₁ hI₁ => ?_)
  refine wpAny_bind (wpAny_holding (wpAny_pure (wpAny_pure ?_)))
  rw [if_neg (by decide)]
  refine wpAny_bind (wpAny_holding (seti_next1 hh hI₁ (hs₁.extBut _ _ hlt (Heap.get?_push_of_some _ ho)) hlt fun h₂ hs₂ => ?_))
  simp only [Option.isSome_none, Bool.false_eq_true, if_false]
  exact wpAny_pure (hQ h₂ fun b o hb e => hs₂ b o hb (hs₁.extBut b o hb (Heap.get?_push_of_some _ e)))
end
end Mine

namespace Mine
section
open LCg
section
variable {prog : Program} {w : World} {A : Around} {E : Value → Shared → Prop} {R : Result → Shared → Prop} {s : Shared}
theorem start_set {elt target iter ifs rest scope pos it acc env}
    (h0 : codeAny (model prog w) A (.compLoop (.SetComp elt (⟨target, iter, ifs, 0⟩ :: rest) scope pos) 0 it acc env) R s)
    (h : wpAny (model prog w) A (pyIter it) (fun it' s' => codeAny (model prog w) A (.compLoop (.SetComp elt (⟨target, iter, ifs, 0⟩ :: rest) scope pos) 0 it' acc env) R s')
      (notedBy (model prog w) A env fun x s' => R (.error x) s') s) :
    codeAny (model prog w) A (.compStart (.SetComp elt (⟨target, iter, ifs, 0⟩ :: rest) scope pos) 0 it acc env) R s := by
  refine codeAny_of_tree ?_
  show wpAny _ _ ((compStart (.SetComp elt (⟨target, iter, ifs, 0⟩ :: rest) scope pos) 0 it acc env).onRaise (fun x => do noteFrame x env; standAt theWindowsPlace)) _ _ s
  refine wpAny_notedAt ?_
  unfold compStart
  show wpAny _ _ (ask >>= _) _ _ s
  refine wpAny_bind (wpAny_askSetting (wpAny_ite ?_))
  split
  · first
      | exact wpAny_bind (wpAny_pure (wpAny_pure (And.intro rfl h0)))
      | exact wpAny_pure (And.intro rfl h0)
  · first
      | exact wpAny_bind (wpAny_rule (wpAny_bind (wpAny_standAt (wpAny_bind (wpAny_mono h (fun it' s' h' => wpAny_pure (And.intro rfl h')) fun _ _ x => x)))))
      | (refine wpAny_bind (wpAny_rule ?_); show wpAny _ _ (standAt iter.pos >>= _) _ _ s; exact wpAny_bind (wpAny_standAt (wpAny_bind (wpAny_mono h (fun it' s' h' => wpAny_pure (And.intro rfl h')) fun _ _ x => x))))
theorem turn_set1 (elt target iter : Expr) (scope : Scope) (pos : Pos) (it acc : Value) (env : Env) :
    compTurn (.SetComp elt [⟨target, iter, [], 0⟩] scope pos) 0 it acc env = (standAt iter.pos >>= fun _ => pyNext it >>= fun r => match r with
      | none => pure (.done .next)
      | some v => letOwnedTupleGo target it v >>= fun _ => assign target env v >>= fun _ =>
        (eval elt env >>= fun x => standAt elt.pos >>= fun _ => call (.builtin "set.add") [acc, x] >>= fun _ => pure ()) >>= fun _ =>
          again (.compLoop (.SetComp elt [⟨target, iter, [], 0⟩] scope pos) 0 it acc env)) := by rfl
theorem loop_set {elt target iter : Expr} {scope : Scope} {pos : Pos} {it acc : Value} {env : Env} (I : Nat → Shared → Prop)
    (turn : ∀ n s, I n s → wpAny (model prog w) A (pyNext it) (fun r s₁ => match r with
      | none => R (.ok .next) s₁
      | some v => wpAny (model prog w) A (assign target env v) (fun _ s₂ => wpAny (model prog w) A (eval elt env) (fun x s₃ =>
          wpAny (model prog w) A (call (.builtin "set.add") [acc, x]) (fun _ s₄ => ∃ m, m < n ∧ I m s₄) (notedBy (model prog w) A env fun e s' => R (.error e) s') s₃)
          (notedBy (model prog w) A env fun e s' => R (.error e) s') s₂) (notedBy (model prog w) A env fun e s' => R (.error e) s') s₁) (notedBy (model prog w) A env fun e s' => R (.error e) s') s)
    (n : Nat) (h : I n s) (ht : ∀ v, letOwnedTupleGo target it v = pure ()) :
    codeAny (model prog w) A (.compLoop (.SetComp elt [⟨target, iter, [], 0⟩] scope pos) 0 it acc env) R s := by
  refine codeAny_loop rfl I (fun n s hI => ?_) n h
  show wpAny _ _ ((compTurn (.SetComp elt [⟨target, iter, [], 0⟩] scope pos) 0 it acc env).onRaise (fun x => do noteFrame x env; theTreesLotGoes x)) _ _ s
  refine wpAny_noted ?_
  rw [turn_set1]
  refine wpAny_bind (wpAny_standAt (wpAny_bind (wpAny_mono (turn n s hI) (fun r s₁ h₁ => ?_) fun _ _ h' => h')))
  cases r with
  | none => exact wpAny_pure h₁
  | some v =>
    refine wpAny_bind (wpAny_of_eq (ht v) ?_)
    exact wpAny_bind (wpAny_mono h₁ (fun _ s₂ h₂ => wpAny_bind (wpAny_bind (wpAny_mono h₂ (fun x s₃ h₃ => wpAny_bind (wpAny_standAt (wpAny_bind (wpAny_mono h₃
      (fun _ s₄ h₄ => wpAny_pure (wpAny_pure ⟨rfl, h₄⟩)) fun _ _ h' => h')))) fun _ _ h' => h'))) fun _ _ h' => h')
end

section
variable {prog : Program} {w : World} {A : Around} {E : Value → Shared → Prop} {s : Shared} {env : Env} {h₀ : Heap} {L : Addr} {m : Str → Option Value}
noncomputable def setAfter (prog : Program) (w : World) : Nat → Obj
  | 0 => set0 prog w
  | _ => set1 prog w
inductive SInv (prog : Program) (w : World) (h₀ : Heap) (L C D : Addr) (m : Str → Option Value) (n : Nat) (St : Nat → Heap → Prop) (news : List (Addr × Obj)) (s₂ : Shared) : Nat → Shared → Prop
  | mk {i h tk m'} (hi : i ≤ n) (st : St i h) (F : Fr h₀ L h m) (hn : h.Ns C m') (N : News h₀ L h ((D, setAfter prog w i) :: news)) : SInv prog w h₀ L C D m n St news s₂ (n + 1 - i) { s₂ with heap := h, toks := tk }
theorem off_cons {I D : Addr} {o : Obj} {news : List (Addr × Obj)} (hD : @Ne Nat D I) (off : ∀ p ∈ news, @Ne Nat p.1 I) : ∀ p ∈ (D, o) :: news, p.1 ≠ I := fun p hp => by
  cases hp with
  | head => exact hD
  | tail _ hp => exact off p hp
theorem set_loop {elt : Expr} {x : Str} {px : Pos} {iter : Expr} {scope : Scope} {cl : List (Str × Addr)} {pos : Pos} {I C D : Addr} {news : List (Addr × Obj)} {n : Nat} {P : Nat → Value → Prop} {St : Nat → Heap → Prop} {S : List (Addr × Obj) → Prop} {fp : List Addr} {RR : Result → Shared → Prop} {hh : Heap} {tt : Nat} {m₀ : Str → Option Value}
    (W : Walks prog w A I fp [I] n P St) (hIo : ∀ i h, St i h → ∃ o, h.get? I = some o) (hSt : ∀ i h h' o nw, St i h → h.get? I = some o → h'.get? I = some o → (∀ b o, h₀.get? b = some o → h'.get? b = some o) → News h₀ L h' nw → S nw → St i h') (hS : S news)
    (hkind : scope.kind = .function) (hx : scope.names.lookup x = some .local) (hn0 : 0 < n) (hIL : L ≠ I) (hI₀ : h₀.get? I = none) (hCL : C ≠ L) (hC₀ : h₀.get? C = none) (hCD : C ≠ D) (hCI : I ≠ C) (hDI : D ≠ I) (hCf : C ∉ fp) (hDf : D ∉ fp) (off : ∀ p ∈ news, @Ne Nat p.1 I) (offC : ∀ p ∈ news, @Ne Nat p.1 C) (offD : ∀ p ∈ news, @Ne Nat p.1 D)
    (st : St 0 hh) (F : Fr h₀ L hh m) (hn : hh.Ns C m₀) (N : News h₀ L hh ((D, set0 prog w) :: news))
    (turn : ∀ i v I oI C oC D oD m₂ h tk (R : Value → Shared → Prop), i < n → P i v → NsObj oC m₂ → m₂ x = some v → Fr h₀ L h m → News h₀ L h ((I, oI) :: (C, oC) :: (D, oD) :: news) → (∀ h' tk', Fr h₀ L h' m → News h₀ L h' ((I, oI) :: (C, oC) :: (D, oD) :: news) → R (.bool true) { s with heap := h', toks := tk' }) →
      wpAny (model prog w) A (eval elt (compEnvC scope cl C env)) R (fun _ _ => False) { s with heap := h, toks := tk })
    (done : ∀ h tk m', Fr h₀ L h m → h.Ns C m' → News h₀ L h ((D, set1 prog w) :: news) → RR (.ok .next) { s with heap := h, toks := tk }) :
    codeAny (model prog w) A (.compLoop (.SetComp elt [⟨.Name x px, iter, [], 0⟩] scope pos) 0 (.ref I) (.ref D) (compEnvC scope cl C env)) RR { s with heap := hh, toks := tt } := by
  refine loop_set (ht := by intro _; rfl) (SInv prog w h₀ L C D m n St news s) (fun k s' hk => ?_) (n + 1) (.mk (i := 0) (Nat.zero_le _) st F hn N)
  cases hk with
  | @mk i h tk m' hi st F hn N =>
  by_cases hlt : i < n
  · refine W.item i _ _ _ hlt st fun v h₂ tk₂ hP st₂ hk₂ => ?_
    have F₂ := fr_but F hk₂ hIL hI₀
    have N₂ := news_but N hk₂ (off_cons hDI off)
    refine wpAny_assign_Name (wpAny_storeName_local (lookup_relabel_local hx) (hn.at' fun o e => hk₂ _ o (by simpa using Ne.symm hCI) e) (fun h₃ hn₃ hs₃ => ?_) (by simp [compEnvC, relabel, hkind]))
    replace hs₃ : Heap.SameBut C h₂ h₃ := hs₃
    have st₃ : St (i + 1) h₃ := W.frame _ _ _ st₂ fun b hb o e => hs₃.extBut b o (fun q => hCf (q ▸ hb)) e
    obtain ⟨oI, eI⟩ := hIo _ _ st₃
    obtain ⟨oC, eC, hoC⟩ := ns_obj hn₃
    have N₃ : News h₀ L h₃ ((D, setAfter prog w i) :: news) := fun p hp => ⟨hs₃.extBut _ _ (off_cons (Ne.symm hCD) offC p hp) (N₂ p hp).1, (N₂ p hp).2⟩
    refine wpAny_mono (turn i v I oI C oC D _ _ h₃ _ (fun y s₄ => wpAny (model prog w) A (call (.builtin "set.add") [.ref D, y]) (fun _ s₅ => ∃ m₁, m₁ < n + 1 - i ∧ SInv prog w h₀ L C D m n St news s m₁ s₅) (notedBy (model prog w) A (compEnvC scope cl C env) fun e s' => RR (.error e) s') s₄) hlt hP hoC (if_pos rfl) (F₂.change hs₃ hCL hC₀) (news_cons eI (Ne.symm hIL) hI₀ (news_cons eC hCL hC₀ N₃)) fun h₄ tk₄ F₄ N₄ => ?_) (fun _ _ q => q) fun _ _ e => e.elim
    have N₅ := drop1 (drop1 N₄)
    have zD := N₅ _ (.head _)
    have st₄ : St (i + 1) h₄ := hSt _ _ _ _ _ st₃ eI (N₄ _ (.head _)).1 F₄.keep (drop1 N₅) hS
    have hn₄ := hoC.ns (N₄ _ (.tail _ (.head _))).1
    cases i with
    | zero => exact add_true0 zD.1 fun h₅ tk₅ hs₅ hD₅ => ⟨_, Nat.sub_lt_sub_left (Nat.lt_succ_of_lt hlt) (Nat.lt_succ_self 0), .mk (i := 1) hlt (W.frame _ _ _ st₄ fun b hb o e => hs₅.extBut b o (fun q => hDf (q ▸ hb)) e) (F₄.change hs₅ zD.2.1 zD.2.2) (hn₄.sameBut hs₅ hCD) (news_cons hD₅ zD.2.1 zD.2.2 fun p hp => ⟨hs₅.extBut _ _ (offD p hp) (N₅ p (.tail _ hp)).1, (N₅ p (.tail _ hp)).2⟩)⟩
    | succ i => exact add_true1 zD.1 fun tk₅ => ⟨_, Nat.sub_lt_sub_left (Nat.lt_succ_of_lt hlt) (Nat.lt_succ_self _), .mk (i := i + 2) hlt st₄ F₄ hn₄ N₅⟩
  · cases Nat.le_antisymm hi (Nat.not_lt.mp hlt)
    refine W.done _ _ _ st fun h₂ tk₂ hk₂ => ?_
    cases n with
    | zero => exact absurd hn0 (Nat.lt_irrefl 0)
    | succ n => exact done h₂ tk₂ _ (fr_but F hk₂ hIL hI₀) (hn.at' fun o e => hk₂ _ o (by simpa using Ne.symm hCI) e) (news_but N hk₂ (off_cons hDI off))
theorem set_E {elt iter : Expr} {x : Str} {px : Pos} {scope : Scope} {cl : List (Str × Addr)} {pos : Pos} {Q : Value → Shared → Prop} {n : Nat} {P : Nat → Value → Prop} {S : List (Addr × Obj) → Prop} {news : List (Addr × Obj)}
    (hclos : closureFor scope env = pure cl) (hcell : ∀ y ∈ scope.names, y.2 ≠ .cell) (hkind : scope.kind = .function) (hnames : ∀ y ∈ scope.names, y.2 = .local → scope.names.lookup y.1 = some .local) (hx : scope.names.lookup x = some .local) (hn0 : 0 < n)
    (d : ∀ Q', (∀ I h' tk', Begun prog w A h₀ L m news n P S I { s with heap := h', toks := tk' } → Q' (.ref I) { s with heap := h', toks := tk' }) → wpAny (model prog w) A (eval iter env) (fun xv s₁ => wpAny (model prog w) A (pyIter xv) Q' E s₁) E s)
    (turn : ∀ i v I oI C oC D oD m₂ h tk (R : Value → Shared → Prop), i < n → P i v → NsObj oC m₂ → m₂ x = some v → Fr h₀ L h m → News h₀ L h ((I, oI) :: (C, oC) :: (D, oD) :: news) → (∀ h' tk', Fr h₀ L h' m → News h₀ L h' ((I, oI) :: (C, oC) :: (D, oD) :: news) → R (.bool true) { s with heap := h', toks := tk' }) →
      wpAny (model prog w) A (eval elt (compEnvC scope cl C env)) R (fun _ _ => False) { s with heap := h, toks := tk })
    (done : ∀ D h tk, Fr h₀ L h m → News h₀ L h ((D, set1 prog w) :: news) → (∀ p ∈ news, @Ne Nat p.1 D) → Q (.ref D) { s with heap := h, toks := tk })
    (hs : ∀ x, foldedSetIterable iter env x = pure x) :
    wpAny (model prog w) A (eval (.SetComp elt [⟨.Name x px, iter, [], 0⟩] scope pos) env) Q E s := by
  show wpAny _ _ (comprehension (.SetComp elt [⟨.Name x px, iter, [], 0⟩] scope pos) scope env (firstIterPos [⟨.Name x px, iter, [], 0⟩] pos) (newSet (.type "set")) (firstAsync [⟨.Name x px, iter, [], 0⟩]) (firstIter [⟨.Name x px, iter, [], 0⟩] env)) _ _ _
  refine wpAny_comprehension_free (use := none) rfl hs hclos hkind hnames (d _ fun I h' tk' B => ?_)
  obtain ⟨⟨fp, St, W, hIo, hSt, hst, hfp⟩, F, N, hIL, hI₀, ab, hS⟩ := B
  refine new_set (wpAny_newFunctionEnv hcell (by intro y hy; simp at hy) (fun h₁ hns₁ hsb₁ => ?_) hkind)
  dsimp only at hns₁ hsb₁ hst hfp F N ⊢
  have hC : (h'.push (set0 prog w)).objs.size = h'.objs.size + 1 := Heap.size_push ..
  rw [hC] at hns₁ hsb₁ ⊢
  have up : ∀ b o, h'.get? b = some o → h₁.get? b = some o := fun b o e => hsb₁.extBut b o (Nat.ne_of_lt (Nat.lt_succ_of_lt (Heap.lt_size e))) (Heap.get?_push_of_some _ (Heap.get?_push_of_some _ e))
  have hD : h₁.get? h'.objs.size = some (set0 prog w) := hsb₁.extBut _ _ (Nat.ne_of_lt (Nat.lt_succ_self _)) (Heap.get?_push_of_some _ (Heap.get?_push_size _ rfl))
  have fresh : ∀ a, h'.objs.size ≤ a → h₀.get? a = none := fun a ha => Heap.get?_none_of_le (Nat.le_trans F.above (Nat.le_trans (Nat.le_of_lt F.ns.lt) ha))
  have F₁ := F.keeps up
  have N₁ : News h₀ L h₁ news := fun p hp => ⟨up _ _ (N p hp).1, (N p hp).2⟩
  have hLD : h'.objs.size ≠ L := Nat.ne_of_gt F.ns.lt
  have hLC : h'.objs.size + 1 ≠ L := Nat.ne_of_gt (Nat.lt_succ_of_lt F.ns.lt)
  have hIl : I < h'.objs.size := hfp I (W.sub I (List.mem_singleton.mpr rfl))
  have st₁ : St 0 h₁ := W.frame _ _ _ hst fun b _ o e => up b o e
  have loop : codeAny (model prog w) A (.compLoop (.SetComp elt [⟨.Name x px, iter, [], 0⟩] scope pos) 0 (.ref I) (.ref h'.objs.size) (compEnvC scope cl (h'.objs.size + 1) env)) (compPost (model prog w) A E none Q (.ref h'.objs.size) (h'.objs.size + 1)) { s with heap := h₁, toks := tk' + ([] : List (Str × Value)).length } :=
    set_loop W hIo hSt hS hkind hx hn0 hIL hI₀ hLC (fresh _ (Nat.le_succ _)) (Nat.succ_ne_self _) (Nat.ne_of_lt (Nat.lt_succ_of_lt hIl)) (Nat.ne_of_gt hIl) (fun hm => Nat.lt_irrefl _ (Nat.lt_of_succ_lt (hfp _ hm))) (fun hm => Nat.lt_irrefl _ (hfp _ hm)) (fun p hp => Nat.ne_of_lt (ab p hp)) (fun p hp => Nat.ne_of_lt (Nat.lt_succ_of_lt (Heap.lt_size (N p hp).1))) (fun p hp => Nat.ne_of_lt (Heap.lt_size (N p hp).1)) st₁ F₁ hns₁ (news_cons hD hLD (fresh _ (Nat.le_refl _)) N₁) turn
      fun h tk m' F' hn N' => ⟨m', hn, fun h'' hs'' => done _ h'' tk (F'.change hs'' hLC (fresh _ (Nat.le_succ _))) (fun p hp => ⟨hs''.extBut _ _ (off_cons (Nat.ne_of_lt (Nat.lt_succ_self _)) (fun p hp => Nat.ne_of_lt (Nat.lt_succ_of_lt (Heap.lt_size (N p hp).1))) p hp) (N' p hp).1, (N' p hp).2⟩) fun p hp => Nat.ne_of_lt (Heap.lt_size (N p hp).1)⟩
  exact start_set loop (W.self 0 _ _ _ st₁ loop)
theorem unpack_set1 {y : Str} {py : Pos} {k : Nat} {pos : Pos} {a : Addr} {news : List (Addr × Obj)} {Q : Unit → Shared → Prop} (hh : A.handled = none) (F : Fr h₀ L s.heap m) (N : News h₀ L s.heap news) (ho : (a, set1 prog w) ∈ news)
    (h : ∀ h', Fr h₀ L h' m → News h₀ L h' news → wpAny (model prog w) A (storeName env y (.bool true)) Q E { s with heap := h' }) :
    wpAny (model prog w) A (assign (.Tuple [.Name y py] k pos) env (.ref a)) Q E s := by
  rw [assign_Tuple]
  refine wpAny_bind (wpAny_standAt ?_)
  unfold unpack
  show wpAny _ _ ((holding [.ref a] (unpackItems (.ref a) 1 none)) >>= _) _ _ _
  refine wpAny_bind (wpAny_holding (items_set1 hh (N.get ho) fun h' he => ?_))
  show wpAny _ _ (assignInOrder [assign (.Name y py) env] [.bool true]) _ _ _
  show wpAny _ _ ((holding [.bool true] (assign (.Name y py) env (.bool true))) >>= fun _ => pure ()) _ _ _
  refine wpAny_bind (wpAny_holding (wpAny_assign_Name ?_))
  exact wpAny_mono (h h' (F.extBut he (Nat.le_refl _)) (N.extBut he (Nat.le_refl _))) (fun _ _ q => wpAny_pure q) fun _ _ e => e
end
section
variable {prog : Program} {w : World} {A : Around} {E : Value → Shared → Prop} {s : Shared} {env : Env} {h₀ : Heap}
structure EnumBegun (h₀ : Heap) (L : Addr) (h : Heap) (m : Str → Option Value) (news : List (Addr × Obj)) (e it l : Addr) (items : Array Value) : Prop where
  F : Fr h₀ L h m
  N : News h₀ L h news
  he : IsEnum h e it 0 .none
  hit : h.IsListIter it l 0
  hl : ∃ n, (l, W.listOf items n) ∈ news
  hei : @Ne Nat e it
  heL : @Ne Nat e L
  hiL : @Ne Nat it L
  he0 : h₀.get? e = none
  hi0 : h₀.get? it = none
  off : ∀ p ∈ news, @Ne Nat p.1 e ∧ @Ne Nat p.1 it
theorem enum_at {l : Addr} {items : Array Value} {n : Nat} {L : Addr} {m : Str → Option Value} {news : List (Addr × Obj)} {Q : Value → Shared → Prop} (F : Fr h₀ L s.heap m) (N : News h₀ L s.heap news) (hm : (l, W.listOf items n) ∈ news)
    (h : ∀ e it h', EnumBegun h₀ L h' m news e it l items → Q (.ref e) { s with heap := h' }) : wpAny (model prog w) A (call (.type "enumerate") [.ref l]) Q E s := by
  refine call_enumerate_1 (N.get hm) fun h' he hit hz up => h _ s.heap.objs.size _ ⟨F.keeps up, N.grown up, he, hit, ⟨_, hm⟩, Nat.succ_ne_self _, ?_, ?_, ?_, ?_, fun p hp => ⟨?_, ?_⟩⟩
  · exact Nat.ne_of_gt (Nat.lt_succ_of_lt F.ns.lt)
  · exact Nat.ne_of_gt F.ns.lt
  · exact Heap.get?_none_of_le (Nat.le_trans F.above (Nat.le_of_lt (Nat.lt_succ_of_lt F.ns.lt)))
  · exact next_is_new F
  · exact Nat.ne_of_lt (Nat.lt_succ_of_lt (Heap.lt_size (N p hp).1))
  · exact Nat.ne_of_lt (Heap.lt_size (N p hp).1)
inductive EInv (h₀ : Heap) (L e it l : Addr) (items : Array Value) (news : List (Addr × Obj)) (J : Nat → (Str → Option Value) → Prop) (s₁ : Shared) : Nat → Shared → Prop
  | mk {h tk m i old} (he : IsEnum h e it ((i : Nat) : Int) old) (hit : h.IsListIter it l i) (F : Fr h₀ L h m) (N : News h₀ L h news) (hJ : J i m) (hi : i ≤ items.size) : EInv h₀ L e it l items news J s₁ (items.size + 1 - i) { s₁ with heap := h, toks := tk }
noncomputable def Kept (L e it : Addr) (h h' : Heap) : Prop := ∀ b o, @Ne Nat b L → @Ne Nat b e → @Ne Nat b it → h.get? b = some o → h'.get? b = some o
theorem EnumBegun.fr {L : Addr} {hh h h' : Heap} {m m' m'' : Str → Option Value} {news : List (Addr × Obj)} {e it l : Addr} {items : Array Value} (M : EnumBegun h₀ L hh m news e it l items) (F : Fr h₀ L h m') (hn : h'.Ns L m'') (k : Kept L e it h h') : Fr h₀ L h' m'' :=
  ⟨hn, fun b o e0 => k b o (fun q => by rw [q, Heap.get?_none_of_le F.above] at e0; cases e0) (fun q => by rw [q, M.he0] at e0; cases e0) (fun q => by rw [q, M.hi0] at e0; cases e0) (F.keep b o e0), F.above⟩
theorem EnumBegun.nw {L : Addr} {hh h h' : Heap} {m : Str → Option Value} {news : List (Addr × Obj)} {e it l : Addr} {items : Array Value} (M : EnumBegun h₀ L hh m news e it l items) (N : News h₀ L h news) (k : Kept L e it h h') : News h₀ L h' news := fun p hp =>
  ⟨k _ _ (N p hp).2.1 (M.off p hp).1 (M.off p hp).2 (N p hp).1, (N p hp).2⟩
theorem enum_R {xi xv : Str} {pi pv pt : Pos} {x1} {body : List Stmt} {RR : Result → Shared → Prop} {hh : Heap} {tt : Nat} {e it l : Addr} {items : Array Value} {m : Str → Option Value} {news : List (Addr × Obj)} (M : EnumBegun h₀ env.locals hh m news e it l items)
    (hd : A.handled = none) (hxi : env.kindOf xi = some .local) (hxv : env.kindOf xv = some .local) (hp : (env.scope.kind == .class || (env.scope.kind == .module && env.locals != env.globals)) = false)
    (J : Nat → (Str → Option Value) → Prop) (K : (Str → Option Value) → List (Addr × Obj) → Prop) (h0 : J 0 m)
    (turn : ∀ i v tk₀ m₁ h tk oE oI (R : Flow → Shared → Prop), items[i]? = some v → J i m₁ → Fr h₀ env.locals h (fun y => if y = xv then some v else if y = xi then some (.int i tk₀) else m₁ y) → News h₀ env.locals h ((e, oE) :: (it, oI) :: news) →
      (∀ h' tk' m', Fr h₀ env.locals h' m' → News h₀ env.locals h' ((e, oE) :: (it, oI) :: news) → J (i + 1) m' → R .next { s with heap := h', toks := tk' }) →
      (∀ h' tk' m' nw', Fr h₀ env.locals h' m' → News h₀ env.locals h' nw' → K m' nw' → R .brk { s with heap := h', toks := tk' }) → wpAny (model prog w) A (execs body env) R (fun _ _ => False) { s with heap := h, toks := tk })
    (fin : ∀ m₁, J items.size m₁ → K m₁ news) (out : ∀ m₁ nw h tk, K m₁ nw → Fr h₀ env.locals h m₁ → News h₀ env.locals h nw → RR (.ok .next) { s with heap := h, toks := tk }) :
    codeAny (model prog w) A (.forLoop (.Tuple [.Name xi pi, .Name xv pv] x1 pt) (.ref e) body [] env) RR { s with heap := hh, toks := tt } := by
  obtain ⟨nl, hml⟩ := M.hl
  refine codeAny_forLoop_any (EInv h₀ env.locals e it l items news J s) (fun k s' hk => ?_) (items.size + 1) (EInv.mk (i := 0) M.he M.hit M.F M.N h0 (Nat.zero_le _))
  cases hk with
  | @mk H tk m' i old he' hit' F' N' hJ hi =>
  have hl' : H.IsList l items := ⟨_, (N' _ hml).1, rfl, _, rfl⟩
  cases hv : items[i]? with
  | none =>
    cases Nat.le_antisymm hi (by simpa using hv)
    refine wpAny_pyNext_enum_end hd he' hit' hl' hv fun h₁ he₁ => wpAny_execs_nil ?_
    have kk : Kept env.locals e it H h₁ := fun b o _ _ hbi x => he₁ b o hbi x
    exact out m' news h₁ tk (fin m' hJ) (M.fr F' (F'.ns.extBut he₁ (Ne.symm M.hiL)) kk) (M.nw N' kk)
  | some v =>
    have hlt : i < items.size := (Array.getElem?_eq_some_iff.mp hv).1
    refine wpAny_pyNext_enum_item he' hit' hl' hv M.hei fun h₁ heo hit₁ ht₁ hz₁ hk₁ => ?_
    refine wpAny_letOwnedTupleGo_enum heo fun h₂ he₂ hs₂ => ?_
    replace hs₂ : Heap.SameBut e h₁ h₂ := hs₂
    have ht₂ : h₂.IsTuple H.objs.size #[.int i tk, v] := ⟨_, (hs₂.2 _ (Nat.ne_of_gt (Heap.lt_size he'))).trans ht₁, rfl, _, rfl⟩
    have hz₂ : h₂.objs.size = H.objs.size + 1 := hs₂.1.trans hz₁
    refine wpAny_assign_Tuple hd ht₂ rfl rfl fun h₃ hx₃ => ?_
    replace hx₃ : Heap.ExtBut h₂.objs.size h₂ h₃ := hx₃
    have old₃ : ∀ b o, b < H.objs.size → h₂.get? b = some o → h₃.get? b = some o := fun b o hb x => hx₃ b o (by rw [hz₂]; exact Nat.ne_of_lt (Nat.lt_succ_of_lt hb)) x
    have hn₃ : h₃.Ns env.locals m' := (F'.ns.at fun o x => hk₁ _ o (Ne.symm M.heL) (Ne.symm M.hiL) x).sameBut hs₂ (Ne.symm M.heL) |>.at fun o x => old₃ _ o F'.ns.lt x
    show wpAny _ A (do holding [v] (assign (.Name xi pi) env (.int i tk)); do holding [] (assign (.Name xv pv) env v); pure ()) _ _ _
    refine wpAny_bind (wpAny_holding (wpAny_assign_Name (wpAny_storeName_local hxi hn₃ (fun h₄ hn₄ hs₄ => ?_) hp)))
    refine wpAny_bind (wpAny_holding (wpAny_assign_Name (wpAny_storeName_local hxv hn₄ (fun h₅ hn₅ hs₅ => wpAny_pure ?_) hp)))
    have up : ∀ b o, @Ne Nat b env.locals → b < H.objs.size → h₂.get? b = some o → h₅.get? b = some o := fun b o hbL hb x => hs₅.extBut b o hbL (hs₄.extBut b o hbL (old₃ b o hb x))
    have kk : Kept env.locals e it H h₅ := fun b o hbL hbe hbi x => up b o hbL (Heap.lt_size x) (hs₂.extBut b o hbe (hk₁ b o hbe hbi x))
    obtain ⟨oi, hoi, _⟩ := id hit'
    obtain ⟨oI, hoI, hoI2⟩ : h₅.IsListIter it l (i + 1) := (hit₁.extBut hs₂.extBut (Ne.symm M.hei)).at fun o x => up it o M.hiL (Heap.lt_size hoi) x
    have he₅ := up e _ M.heL (Heap.lt_size he') he₂
    refine wpAny_mono (turn i v tk m' h₅ _ _ oI (fun f s₃ => match f with
        | .next | .cont => ∃ m, m < items.size + 1 - i ∧ EInv h₀ env.locals e it l items news J s m s₃
        | .brk => RR (.ok .next) s₃
        | .ret v => RR (.ok (.ret v)) s₃) hv hJ (M.fr F' hn₅ kk) (news_cons he₅ M.heL M.he0 (news_cons hoI M.hiL M.hi0 (M.nw N' kk)))
      (fun h' tk' m'' F'' N'' hJ' => ⟨_, Nat.sub_lt_sub_left (Nat.lt_succ_of_lt hlt) (Nat.lt_succ_self i), .mk (i := i + 1) (N'' _ (.head _)).1 ⟨oI, (N'' _ (.tail _ (.head _))).1, hoI2⟩ F'' (drop1 (drop1 N'')) hJ' hlt⟩)
      fun h' tk' m'' nw' F'' N'' k => out m'' nw' h' tk' k F'' N'') (fun _ _ q => q) fun _ _ x => x.elim
end
end
end Mine

namespace Mine
theorem owner_map : Manifest.owners.lookup (String.ofList ['p', 'a', 'm'].reverse) = some Manifest.sig_map := by kernel_rfl
theorem slot_map_next : Slot "map" "__next__" "map.__next__" :=
  .of (owner := "map") (n := "__next__") (by rw [typeLookup_type, builtinLookup_eq_fast]; kernel_rfl) (by decide +kernel) (by decide +kernel) (by decide +kernel)
    (by first | exact .inl (by decide +kernel) | exact .inr (by decide +kernel)) (by rw [isSubtype_type]; kernel_rfl)
theorem entry_map_next : entryFor table "map.__next__" = some Builtin.«map.__next__» := entryFor_of_tree (by kernel_rfl)
theorem args_map_next (a : Value) : argsOk "map.__next__" ⟨[a], []⟩ := by
  unfold argsOk; rw [signature?_of (id := "map.__next__") (n := ['_', '_', 't', 'x', 'e', 'n', '_', '_']) (o := ['p', 'a', 'm']) (by kernel_rfl) owner_map]; kernel_rfl
theorem slot_map_iter : Slot "map" "__iter__" "map.__iter__" :=
  .of (owner := "map") (n := "__iter__") (by rw [typeLookup_type, builtinLookup_eq_fast]; kernel_rfl) (by decide +kernel) (by decide +kernel) (by decide +kernel)
    (by first | exact .inl (by decide +kernel) | exact .inr (by decide +kernel)) (by rw [isSubtype_type]; kernel_rfl)
theorem entry_map_iter : entryFor table "map.__iter__" = some Builtin.«dict_keyiterator.__iter__» :=
  entryFor_alias (id' := "dict_keyiterator.__iter__") (by kernel_rfl) (by first | rfl | decide +kernel | (unfold String.splitOn; simp +decide [String.splitOnAux])) (by decide +kernel) (by kernel_rfl)
theorem args_map_iter (a : Value) : argsOk "map.__iter__" ⟨[a], []⟩ := by
  unfold argsOk; rw [signature?_of (id := "map.__iter__") (n := ['_', '_', 'r', 'e', 't', 'i', '_', '_']) (o := ['p', 'a', 'm']) (by kernel_rfl) owner_map]; kernel_rfl
theorem slot_map_init : Slot "map" "__init__" "object.__init__" :=
  .of (owner := "object") (n := "__init__") (by rw [typeLookup_type, builtinLookup_eq_fast]; kernel_rfl) (by decide +kernel) (by decide +kernel) (by decide +kernel)
    (by first | exact .inl (by decide +kernel) | exact .inr (by decide +kernel)) (by rw [isSubtype_type]; kernel_rfl)
theorem mro_map : mroOf (.type "map") = pure [.type "map", .type "object"] := by rw [mroOf_type]; kernel_rfl
theorem lookup_map_new : typeLookup (.type "map") "__new__" = pure (some (.builtin "map.__new__")) := by rw [typeLookup_type, builtinLookup_eq_fast]; kernel_rfl
theorem called_map : TypeCalled "map" "map.__new__" "object.__init__" :=
  ⟨by decide +kernel, by decide +kernel, ⟨_, _, mro_map⟩, madeBy_type mro_map lookup_map_new (by decide +kernel), by decide +kernel, by rw [isSubtype_type]; kernel_rfl, slot_map_init⟩
theorem typeCall_map (a b : Value) : checkTypeCall "map" ⟨[a, b], []⟩ = pure () := by kernel_rfl
theorem newCall_map (a b : Value) : checkBuiltinCall "map.__new__" ⟨[.type "map", a, b], []⟩ = pure () := by kernel_rfl
theorem entry_map_new : entryFor table "map.__new__" = some Builtin.«map.__new__» := entryFor_of_tree (by kernel_rfl)
theorem map_no_len : typeLookup (.type "map") "__len__" = pure none := by rw [typeLookup_type, builtinLookup_eq_fast]; kernel_rfl
theorem map_no_hint : typeLookup (.type "map") "__length_hint__" = pure none := by rw [typeLookup_type, builtinLookup_eq_fast]; kernel_rfl
theorem sub_map : isSubtype (.type "map") (.type "map") = pure true := by rw [isSubtype_type]; kernel_rfl
noncomputable abbrev mapObj (TI : Addr) (f : Value) : Obj := { cls := .type "map", dict := none, data := .fields #[.ref TI, f], slots := #[] }
noncomputable abbrev oneTup (x : Value) : Obj := { cls := .type "tuple", data := .seq #[x] }
noncomputable def IterObj (o : Obj) (l : Addr) (i : Nat) : Prop := o.cls = .type "list_iterator" ∧ o.data = .fields #[.ref l, .int i 0]
noncomputable abbrev mapH1 (h : Heap) (l : Addr) : Heap := h.push { cls := .type "list_iterator", data := .fields #[.ref l, .int 0 0] }
noncomputable abbrev mapH2 (h : Heap) (l : Addr) : Heap := (mapH1 h l).push (oneTup (.ref h.objs.size))
noncomputable abbrev mapH3 (h : Heap) (f : Value) (l : Addr) : Heap := (mapH2 h l).push (mapObj (mapH1 h l).objs.size f)
theorem meets_map_new (f : Value) (l : Addr) (xs : Array Value) :
    Meets (Builtin.«map.__new__» ⟨[.type "map", f, .ref l], []⟩) (fun _ R s => s.heap.IsList l xs ∧ R (.ok (.ret (.ref (mapH2 s.heap l).objs.size))) { s with heap := mapH3 s.heap f l }) :=
  .of_wp fun prog w A R s h => by
    obtain ⟨hp, g, d, tk, os⟩ := s; obtain ⟨hl, h⟩ := h
    have hsub := sub_map
    have hL : Heap.IsList (Shared.heap ⟨hp, g, d, tk, os⟩) l xs := hl
    wp_walk using wpAny_pyIter_list hL
    exact ⟨_, rfl, h⟩
section
variable {prog : Program} {w : World} {A : Around} {E : Value → Shared → Prop} {s : Shared} {h₀ : Heap} {L : Addr} {m : Str → Option Value} {news : List (Addr × Obj)}
theorem call_map {f : Value} {l : Addr} {xs : Array Value} {Q : Value → Shared → Prop} (hl : s.heap.IsList l xs)
    (h : Q (.ref (mapH2 s.heap l).objs.size) { s with heap := mapH3 s.heap f l }) : wpAny (model prog w) A (call (.type "map") [f, .ref l]) Q E s := by
  refine callType_new called_map (by decide) (typeCall_map _ _) (newCall_map _ _) (fun obj => F.args_object_init_3 obj _ _) entry_map_new
    (meets_map_new f l xs) ⟨hl, ?_⟩
  exact ⟨⟨_, Heap.get?_push_size _ rfl, rfl⟩, h⟩
theorem news_off {h h' : Heap} {a : Addr} (N : News h₀ L h news) (hs : Heap.SameBut a h h') (off : ∀ p ∈ news, p.1 ≠ a) : News h₀ L h' news := fun p hp => ⟨hs.extBut _ _ (off p hp) (N p hp).1, (N p hp).2⟩
structure MapAt (h₀ : Heap) (L : Addr) (h : Heap) (m : Str → Option Value) (news : List (Addr × Obj)) (z TI it l : Addr) (f : Value) (k : Nat) : Prop where
  F : Fr h₀ L h m
  N : ∃ oI, IterObj oI l k ∧ News h₀ L h ((z, mapObj TI f) :: (TI, oneTup (.ref it)) :: (it, oI) :: news)
  zi : @Ne Nat z it
  ti : @Ne Nat TI it
  off : ∀ p ∈ news, p.1 ≠ it
noncomputable def SameCall (prog : Program) (w : World) (A : Around) (h₀ : Heap) (L : Addr) (m : Str → Option Value) (f x : Value) : Prop :=
  ∀ (s : Shared) (nw : List (Addr × Obj)) (Q E : Value → Shared → Prop), Fr h₀ L s.heap m → News h₀ L s.heap nw → (∀ h' tk', Fr h₀ L h' m → News h₀ L h' nw → Q x { s with heap := h', toks := tk' }) →
    wpAny (model prog w) A (call f [x]) Q E s
theorem mapAt_iter {z TI it l : Addr} {f : Value} {k : Nat} (M : MapAt h₀ L s.heap m news z TI it l f k) : s.heap.IsListIter it l k := by
  obtain ⟨oI, ho, N⟩ := M.N
  exact ⟨oI, (N _ (.tail _ (.tail _ (.head _)))).1, ho⟩
theorem map_next {z TI it l : Addr} {f x : Value} {k : Nat} {xs : Array Value} {Q : Option Value → Shared → Prop} (M : MapAt h₀ L s.heap m news z TI it l f k) (hl : s.heap.IsList l xs) (hx : xs[k]? = some x)
    (hc : SameCall prog w A.in1 h₀ L m f x)
    (hQ : ∀ h' tk', MapAt h₀ L h' m news z TI it l f (k + 1) → Q (some x) { s with heap := h', toks := tk' }) : wpAny (model prog w) A (pyNext (.ref z)) Q E s := by
  have hit := mapAt_iter M
  obtain ⟨oI, ho, N⟩ := id M.N
  have hz := (N _ (.head _)).1
  have hTI := (N _ (.tail _ (.head _))).1
  have hI := N _ (.tail _ (.tail _ (.head _)))
  have hT : s.TypeIs (.ref z) "map" := ⟨_, hz, rfl⟩
  unfold pyNext
  refine wpAny_bind (wpAny_attempt (wpAny_callSpecial?_slot (name := Str.ofString "__next__") hT slot_map_next (wpAny_call_entry slot_map_next hT entry_map_next ?_ (args_map_next _))))
  show wpAny _ _ (field (.ref z) 0 >>= _) _ _ _
  refine wpAny_bind (wpAny_field hz rfl (x := .ref TI) rfl ?_)
  refine wpAny_bind (wpAny_seqItems hTI rfl ?_)
  refine wpAny_bind (wpAny_arrayLoop ?_)
  simp only [List.forIn_cons, List.forIn_nil]
  refine wpAny_bind (wpAny_bind (wpAny_holding ?_))
  refine wpAny_nextOf_list_item hit hl hx fun h₂ h1₂ hs₂ => wpAny_pure (wpAny_pure ?_)
  have hz₂ := hs₂.extBut _ _ M.zi hz
  refine wpAny_bind (wpAny_field hz₂ rfl (x := f) rfl ?_)
  obtain ⟨oJ, hJ, hoJ⟩ := h1₂
  have F₂ : Fr h₀ L h₂ m := M.F.change hs₂ hI.2.1 hI.2.2
  have N₂ : News h₀ L h₂ ((z, mapObj TI f) :: (TI, oneTup (.ref it)) :: (it, oJ) :: news) :=
    news_cons hz₂ (N _ (.head _)).2.1 (N _ (.head _)).2.2 (news_cons (hs₂.extBut _ _ M.ti hTI) (N _ (.tail _ (.head _))).2.1 (N _ (.tail _ (.head _))).2.2 (news_cons hJ hI.2.1 hI.2.2 (news_off (drop1 (drop1 (drop1 N))) hs₂ M.off)))
  refine wpAny_bind (wpAny_holding ?_)
  refine hc _ _ _ _ F₂ N₂ fun h₃ tk₃ F₃ N₃ => ?_
  refine wpAny_bind (wpAny_letGo (wpAny_pure ⟨_, rfl, ?_⟩))
  exact wpAny_pure (hQ h₃ tk₃ ⟨F₃, ⟨oJ, hoJ, N₃⟩, M.zi, M.ti, M.off⟩)
theorem map_end {z TI it l : Addr} {f : Value} {k : Nat} {xs : Array Value} {Q : Option Value → Shared → Prop} (hh : A.handled = none) (M : MapAt h₀ L s.heap m news z TI it l f k) (hl : s.heap.IsList l xs) (hx : xs[k]? = none)
    (hQ : ∀ h', Fr h₀ L h' m → News h₀ L h' news → Q none { s with heap := h' }) : wpAny (model prog w) A (pyNext (.ref z)) Q E s := by
  have hit := mapAt_iter M
  obtain ⟨oI, ho, N⟩ := id M.N
  have hz := (N _ (.head _)).1
  have hTI := (N _ (.tail _ (.head _))).1
  have hI := N _ (.tail _ (.tail _ (.head _)))
  have hT : s.TypeIs (.ref z) "map" := ⟨_, hz, rfl⟩
  unfold pyNext
  refine wpAny_bind (wpAny_attempt (wpAny_callSpecial?_slot (name := Str.ofString "__next__") hT slot_map_next (wpAny_call_entry slot_map_next hT entry_map_next ?_ (args_map_next _))))
  show wpAny _ _ (field (.ref z) 0 >>= _) _ _ _
  refine wpAny_bind (wpAny_field hz rfl (x := .ref TI) rfl ?_)
  refine wpAny_bind (wpAny_seqItems hTI rfl ?_)
  refine wpAny_bind (wpAny_arrayLoop ?_)
  simp only [List.forIn_cons, List.forIn_nil]
  refine wpAny_bind (wpAny_bind (wpAny_holding ?_))
  refine wpAny_nextOf_list_end hh hit hl hx fun h₂ e hs₂ he => ?_
  obtain ⟨o, ho, hc⟩ := he
  refine wpAny_bind (wpAny_isInstance (T := "StopIteration") (b := true) ⟨o, ho, hc⟩ isSubtype_stop ?_)
  refine wpAny_pure (hQ _ (LCg.fr_but M.F (fun b o hb e => hs₂ b o (fun q => hb (by rw [q]; exact .head _)) e) (Ne.symm hI.2.1) hI.2.2) fun p hp => ?_)
  have z9 := N _ (.tail _ (.tail _ (.tail _ hp)))
  exact ⟨hs₂ _ _ (M.off p hp) z9.1, z9.2⟩
noncomputable abbrev accObj (acc : Array Value) (c : Nat) : Obj := { cls := .type "list", dict := none, data := .seq acc c, slots := #[] }
theorem extend_map {z TI it l S : Addr} {f res : Value} {nn : Nat} {xs : List Value} {R : Result → Shared → Prop} (hh : A.handled = none) (hm : (l, W.listOf xs.toArray nn) ∈ news) (hc : ∀ x ∈ xs, SameCall prog w A.in1.in1 h₀ L m f x) (hz : xs.length ≤ 1000)
    (Sz : @Ne Nat S z) (STI : @Ne Nat S TI) (Soff : ∀ p ∈ news, p.1 ≠ S) (hR : ∀ h' tk' c', Fr h₀ L h' m → News h₀ L h' ((S, accObj xs.toArray c') :: news) → R (.ok (.ret res)) { s with heap := h', toks := tk' }) :
    ∀ (rest done : List Value) (h : Heap) (tk c : Nat), xs = done ++ rest → MapAt h₀ L h m ((S, accObj done.toArray c) :: news) z TI it l f done.length →
    codeAny (model prog w) A (.builtin "list.extend.loop" ⟨[.ref S, .ref z, res], []⟩) R { s with heap := h, toks := tk } := by
  intro rest
  induction rest with
  | nil =>
    intro done h tk c e M
    obtain ⟨oI, ho, N⟩ := id M.N
    refine run_plain F.plain_extend_loop F.entry_extend_loop ?_
    show wpAny _ A.in1 (pyNext (.ref z) >>= _) _ _ _
    rw [List.append_nil] at e
    exact wpAny_bind (map_end (s := { s with heap := h, toks := tk }) hh M (News.isList N (.tail _ (.tail _ (.tail _ (.tail _ hm))))) (by rw [e]; simp) fun h' F' N' => wpAny_pure (hR h' tk c F' (e ▸ N')))
  | cons x rest ih =>
    intro done h tk c e M
    obtain ⟨oI, ho, N⟩ := id M.N
    refine run_plain F.plain_extend_loop F.entry_extend_loop ?_
    show wpAny _ A.in1 (pyNext (.ref z) >>= _) _ _ _
    refine wpAny_bind (map_next (s := { s with heap := h, toks := tk }) M (News.isList N (.tail _ (.tail _ (.tail _ (.tail _ hm))))) (x := x) (by rw [e]; simp) (hc _ (e ▸ List.mem_append_right _ (.head _))) fun h' tk' M' => ?_)
    clear N M
    obtain ⟨oJ, hoJ, N'⟩ := id M'.N
    have hS' := N' _ (.tail _ (.tail _ (.tail _ (.head _))))
    have hdz : done.length + 1 ≤ sizeLine := Nat.le_trans (Nat.le_trans (e ▸ (by rw [List.length_append]; exact Nat.add_le_add_left (Nat.le_add_left 1 _) _)) hz) (by decide)
    show wpAny _ A.in1 (updateSeq S (·.push x) >>= _) _ _ _
    refine wpAny_bind ?_
    have key := Heap.get?_update_self (Obj.mapSeq (·.push x)) hS'.1 rfl
    simp only [Obj.mapSeq, List.push_toArray] at key
    refine wpAny_updateSeq hS'.1 rfl (wpAny_pure ⟨plainId_quiet F.plain_extend_loop _, ?_⟩) (by rw [List.size_toArray]; exact Nat.le_of_succ_le hdz) (by show (Array.push _ _).size ≤ _; rw [Array.size_push, List.size_toArray]; exact Nat.le_succ_of_le hdz)
    have hs : Heap.SameBut S h' (h'.update S (Obj.mapSeq (·.push x))) := Heap.SameBut.update ..
    generalize h'.update S _ = h2 at key hs ⊢
    have z1 := N' _ (.head _)
    have z2 := N' _ (.tail _ (.head _))
    have z3 := N' _ (.tail _ (.tail _ (.head _)))
    exact ih (done ++ [x]) h2 tk' _ (by rw [e, List.append_assoc]; rfl) ⟨M'.F.change hs hS'.2.1 hS'.2.2, ⟨oJ, by rw [List.length_append]; exact hoJ, news_cons (hs.extBut _ _ (Ne.symm Sz) z1.1) z1.2.1 z1.2.2 (news_cons (hs.extBut _ _ (Ne.symm STI) z2.1) z2.2.1 z2.2.2 (news_cons (hs.extBut _ _ (Ne.symm (M'.off _ (.head _))) z3.1) z3.2.1 z3.2.2 (news_cons key hS'.2.1 hS'.2.2 (news_off (drop1 (drop1 (drop1 (drop1 N')))) hs Soff))))⟩, M'.zi, M'.ti, fun p hp => by
      cases hp with
      | head => exact M'.off (S, accObj done.toArray c) (.head _)
      | tail _ hp => exact M'.off _ (.tail _ hp)⟩
theorem collect_map {z TI it l : Addr} {f : Value} {nn : Nat} {xs : List Value} {Q : List Value → Shared → Prop} (hh : A.handled = none) (M : MapAt h₀ L s.heap m news z TI it l f 0) (hm : (l, W.listOf xs.toArray nn) ∈ news) (hc : ∀ x ∈ xs, SameCall prog w A.in1.in1 h₀ L m f x) (hz : xs.length ≤ 1000)
    (hQ : ∀ h' tk', Fr h₀ L h' m → News h₀ L h' news → Q xs { s with heap := h', toks := tk' }) : wpAny (model prog w) A (collect (.ref z)) Q E s := by
  obtain ⟨oI, ho, N⟩ := id M.N
  have hzS := (N _ (.head _))
  have hTIS := (N _ (.tail _ (.head _)))
  have hIS := N _ (.tail _ (.tail _ (.head _)))
  have lt : ∀ {b : Addr} {o : Obj}, s.heap.get? b = some o → @Ne Nat s.heap.objs.size b := fun e => Nat.ne_of_gt (Heap.lt_size e)
  unfold collect
  refine wpAny_bind (wpAny_runValue (run_plain F.plain_proto_collect F.entry_proto_collect ?_))
  show wpAny _ A.in1 (newList [] >>= fun l => again (.builtin "list.__iadd__" ⟨[l, .ref z], []⟩)) _ _ s
  refine wpAny_bind (wpAny_newObj_type ?_)
  refine wpAny_pure (go_on F.plain_list_iadd F.entry_list_iadd ?_)
  have up : ∀ b o, s.heap.get? b = some o → (s.heap.push { cls := .type "list", data := .seq ([] : List Value).toArray }).get? b = some o := fun b o e => Heap.get?_push_of_some _ e
  have hT : Shared.TypeIs { s with heap := s.heap.push { cls := .type "list", data := .seq ([] : List Value).toArray } } (.ref z) "map" := ⟨_, up _ _ hzS.1, rfl⟩
  show wpAny _ A.in1 (Builtin.List.listExtendWith (.ref s.heap.objs.size) (.ref z) (.ref s.heap.objs.size)) _ _ _
  unfold Builtin.List.listExtendWith
  refine wpAny_bind (wpAny_typeOf hT ?_)
  have h1 : Builtin.List.listSameRef (.ref s.heap.objs.size) (.ref z) = false := by simp [Builtin.List.listSameRef, lt hzS.1]
  have h2 : (Value.type "map" == Value.type "list") = false := by decide
  have h3 : (Value.type "map" == Value.type "tuple") = false := by decide
  simp only [h1, h2, h3, Bool.or_false, Bool.false_eq_true, if_false]
  refine wpAny_bind (wpAny_pyIter_slot hT slot_map_iter (wpAny_call_entry slot_map_iter hT entry_map_iter ?_ (args_map_iter _)))
  show wpAny _ _ (ret (.ref z)) _ _ _
  refine wpAny_pure ⟨_, rfl, "map", _, hT, slot_map_next.lookup, ?_⟩
  refine wpAny_bind (wpAny_holding ?_)
  unfold Builtin.List.listLengthHint
  refine wpAny_bind (wpAny_specialOf hT map_no_len ?_)
  show wpAny _ A.in1 (specialOf (Value.ref z) (Str.ofString "__length_hint__") >>= _) _ _ _
  refine wpAny_bind (wpAny_specialOf hT map_no_hint ?_)
  refine wpAny_pure ?_
  show wpAny _ A.in1 (rule "list.extend.makes-room" >>= fun _ => Builtin.List.listTouch (.ref s.heap.objs.size) >>= fun _ =>
    again (.builtin "list.extend.loop" ⟨[.ref s.heap.objs.size, .ref z, .ref s.heap.objs.size], []⟩)) _ _ _
  refine wpAny_bind (wpAny_rule ?_)
  have hS₁ : (s.heap.push { cls := .type "list", data := .seq ([] : List Value).toArray }).get? s.heap.objs.size = some { cls := .type "list", data := .seq ([] : List Value).toArray } := Heap.get?_push_size _ rfl
  refine wpAny_bind ?_
  show wpAny _ A.in1 (updateSeq s.heap.objs.size (·.push .none) >>= fun _ => updateSeq s.heap.objs.size (·.pop)) _ _ _
  refine wpAny_bind (wpAny_updateSeq hS₁ rfl ?_)
  have hS₂ := Heap.get?_update_self (Obj.mapSeq (·.push Value.none)) hS₁ rfl
  refine wpAny_updateSeq hS₂ rfl ?_
  have hS₃ := Heap.get?_update_self (Obj.mapSeq (·.pop)) hS₂ rfl
  have oth : ∀ b o, s.heap.get? b = some o →
      (((s.heap.push { cls := .type "list", data := .seq ([] : List Value).toArray }).update s.heap.objs.size (Obj.mapSeq (·.push Value.none))).update s.heap.objs.size (Obj.mapSeq (·.pop))).get? b = some o :=
    fun b o e => (Heap.get?_update_other _ _ (lt e)).trans ((Heap.get?_update_other _ _ (lt e)).trans (up b o e))
  generalize ((s.heap.push { cls := .type "list", data := .seq ([] : List Value).toArray }).update s.heap.objs.size (Obj.mapSeq (·.push Value.none))).update s.heap.objs.size (Obj.mapSeq (·.pop)) = H3 at hS₃ oth ⊢
  have hL0 : h₀.get? s.heap.objs.size = none := next_is_new M.F
  have hLS : @Ne Nat s.heap.objs.size L := by obtain ⟨o9, _, _, e9, _⟩ := M.F.ns; exact lt e9
  have l3 := fun p (hp : p ∈ news) => Ne.symm (lt (N p (.tail _ (.tail _ (.tail _ hp)))).1)
  refine wpAny_pure ⟨plainId_quiet F.plain_extend_loop _, extend_map (A := A) hh hm hc hz (lt hzS.1) (lt hTIS.1) l3 (fun h' tk' c' F' N' => ?_) xs [] H3 s.toks _ rfl
    ⟨M.F.keeps oth, ⟨oI, ho, news_cons (oth _ _ hzS.1) hzS.2.1 hzS.2.2 (news_cons (oth _ _ hTIS.1) hTIS.2.1 hTIS.2.2 (news_cons (oth _ _ hIS.1) hIS.2.1 hIS.2.2 (news_cons hS₃ hLS hL0 ((drop1 (drop1 (drop1 N))).grown oth))))⟩, M.zi, M.ti, fun p hp => by
      cases hp with
      | head => exact lt hIS.1
      | tail _ hp => exact M.off p hp⟩⟩
  show wpAny _ A (load s.heap.objs.size >>= _) _ _ _
  exact wpAny_bind (wpAny_load (N' _ (.head _)).1 (wpAny_pure (hQ h' tk' F' (drop1 N'))))
theorem code_tuple_new_map {z TI it l : Addr} {f : Value} {nn : Nat} {xs : List Value} {Q₁ : Value → Shared → Prop} (hh : A.handled = none) (M : MapAt h₀ L s.heap m news z TI it l f 0) (hm : (l, W.listOf xs.toArray nn) ∈ news) (hc : ∀ x ∈ xs, SameCall prog w A.in1.in1.in1 h₀ L m f x) (hz : xs.length ≤ 1000)
    (h : ∀ h' tk', Fr h₀ L h' m → News h₀ L h' news → Q₁ (.ref h'.objs.size) { s with heap := h'.push { cls := .type "tuple", data := .seq xs.toArray }, toks := tk' }) :
    codeAny (model prog w) A (.call (.builtin "tuple.__new__") ⟨[.type "tuple", .ref z], []⟩) (wants Q₁ E) s := by
  refine codeAny_of_tree ?_
  show wpAny _ A.in1 (do checkBuiltinCall "tuple.__new__" ⟨[.type "tuple", .ref z], []⟩; again (.builtin "tuple.__new__" ⟨[.type "tuple", .ref z], []⟩)) _ _ s
  refine wpAny_bind (wpAny_of_eq (F.newCall_tuple_1 _) (wpAny_pure (go_on F.plain_tuple_new F.entry_tuple_new ?_)))
  have hsub := sub_tuple_self
  have hinit := init_tuple_lookup
  have hmh := madeHere_tuple
  have hTI : s.TypeIs (.ref z) "map" := by obtain ⟨oI, _, N⟩ := M.N; exact ⟨_, (N _ (.head _)).1, rfl⟩
  wp_walk using wpAny_typeOf hTI, collect_map (A := A.in1) (s := s) hh M hm hc hz
  intro h' tk' F' N'
  show wpAny _ _ (Builtin.Tuple.tupleExact xs.toArray >>= fun v => ret v) _ _ _
  unfold Builtin.Tuple.tupleExact
  refine wpAny_bind (wpAny_newObj_type ?_ (by show xs.toArray.size ≤ sizeLine; rw [List.size_toArray, sizeLine_eq]; omega))
  refine wpAny_pure ?_
  exact h h' tk' F' N'
theorem tuple_map {z TI it l : Addr} {f : Value} {nn : Nat} {xs : List Value} {Q : Value → Shared → Prop} (hh : A.handled = none) (M : MapAt h₀ L s.heap m news z TI it l f 0) (hm : (l, W.listOf xs.toArray nn) ∈ news) (hc : ∀ x ∈ xs, SameCall prog w A.in1.in1.in1.in1 h₀ L m f x) (hz : xs.length ≤ 1000)
    (hQ : ∀ T h' tk', Fr h₀ L h' m → News h₀ L h' ((T, { cls := .type "tuple", data := .seq xs.toArray }) :: news) → (∀ p ∈ news, p.1 < T) → Q (.ref T) { s with heap := h', toks := tk' }) :
    wpAny (model prog w) A (call (.type "tuple") [.ref z]) Q E s := by
  refine callType_codes (Q₁ := fun obj s₁ => s₁.TypeIs obj "tuple" ∧ Q obj s₁) F.called_tuple (F.typeCall_tuple_1 _) F.entry_object_init
    (code_tuple_new_map hh M hm hc hz fun h' tk' F' N' => ⟨⟨_, Heap.get?_push_size _ rfl, rfl⟩, ?_⟩) fun obj s₁ h₁ => ?_
  · exact hQ _ _ _ (F'.push _) (news_cons (Heap.get?_push_size _ rfl) (Ne.symm (Nat.ne_of_lt F'.ns.lt)) (next_is_new F') (N'.grown fun _ _ e => Heap.get?_push_of_some _ e)) fun p hp => Heap.lt_size (N' p hp).1
  · exact ⟨h₁.1, F.args_object_init_2 obj _, object_init_meets F.called_tuple.init.lookup F.called_tuple.made (by decide) prog w A.in1 _ s₁ ⟨h₁.1, rfl, h₁.2⟩⟩
theorem call_map_at {l : Addr} {f : Value} {nn : Nat} {xs : List Value} {Q : Value → Shared → Prop} (F : Fr h₀ L s.heap m) (N : News h₀ L s.heap news) (hm : (l, W.listOf xs.toArray nn) ∈ news)
    (hQ : ∀ z TI it h', MapAt h₀ L h' m news z TI it l f 0 → Q (.ref z) { s with heap := h' }) : wpAny (model prog w) A (call (.type "map") [f, .ref l]) Q E s := by
  have g3 : (mapH3 s.heap f l).get? (mapH2 s.heap l).objs.size = some (mapObj (mapH1 s.heap l).objs.size f) := Heap.get?_push_size _ rfl
  have g2 : (mapH3 s.heap f l).get? (mapH1 s.heap l).objs.size = some (oneTup (.ref s.heap.objs.size)) := Heap.get?_push_of_some _ (Heap.get?_push_size _ rfl)
  have g1 : (mapH3 s.heap f l).get? s.heap.objs.size = some { cls := .type "list_iterator", data := .fields #[.ref l, .int 0 0] } := Heap.get?_push_of_some _ (Heap.get?_push_of_some _ (Heap.get?_push_size _ rfl))
  have up : ∀ b o, s.heap.get? b = some o → (mapH3 s.heap f l).get? b = some o := fun b o e => Heap.get?_push_of_some _ (Heap.get?_push_of_some _ (Heap.get?_push_of_some _ e))
  have s1 : (mapH1 s.heap l).objs.size = s.heap.objs.size + 1 := Heap.size_push ..
  have s2 : (mapH2 s.heap l).objs.size = s.heap.objs.size + 1 + 1 := (Heap.size_push ..).trans (congrArg (· + 1) s1)
  have ne : ∀ k, @Ne Nat (s.heap.objs.size + k) L := fun k => Nat.ne_of_gt (Nat.lt_of_lt_of_le F.ns.lt (Nat.le_add_right _ k))
  have z0 : ∀ k, h₀.get? (s.heap.objs.size + k) = none := fun k => Heap.get?_none_of_le (Nat.le_trans F.above (Nat.le_trans (Nat.le_of_lt F.ns.lt) (Nat.le_add_right _ k)))
  have h3 := call_map (prog := prog) (w := w) (A := A) (E := E) (f := f) (News.isList N hm) (Q := Q)
  rw [s1] at g2 g3
  rw [s2] at g3 h3
  generalize mapH3 s.heap f l = H3 at g1 g2 g3 up h3
  exact h3 (hQ _ _ _ H3 ⟨F.keeps up, ⟨_, ⟨rfl, rfl⟩, news_cons g3 (ne 2) (z0 2) (news_cons g2 (ne 1) (z0 1) (news_cons g1 (ne 0) (z0 0) (N.grown up)))⟩, Nat.ne_of_gt (Nat.lt_succ_of_lt (Nat.lt_succ_self _)), Nat.succ_ne_self _, fun p hp => Nat.ne_of_lt (Heap.lt_size (N p hp).1)⟩)
end
end Mine

namespace Mine
open AutoSeq1 (wpAny_loadPart')
open MeetsSeq MeetsSeq2 MeetsSeq3
noncomputable def lexLt : List Str → List Str → Bool
  | x :: xs, y :: ys => if x = y then lexLt xs ys else decide (x.cps.toList < y.cps.toList)
  | [], _ :: _ => true
  | _, [] => false
noncomputable abbrev rowObj (vs : List Value) (n : Nat) : Obj := { cls := .type "list", dict := none, data := .seq vs.toArray n, slots := #[] }
theorem at_app {α : Type} (d r : List α) : (d ++ r).toArray[((d.length : Nat) : Int).toNat]? = r.head? := by
  show (d ++ r).toArray[d.length]? = _
  rw [List.getElem?_toArray, List.getElem?_append_right (Nat.le_refl _), Nat.sub_self, List.head?_eq_getElem?]
theorem ret_bool {R : Result → Shared → Prop} {b b' : Bool} {s : Shared} (e : b = b') (h : R (.ok (.ret (.bool b'))) s) : R (.ok (.ret (.bool b))) s := e ▸ h
theorem rc_lt {prog : Program} {w : World} {A : Around} {E : Value → Shared → Prop} {s : Shared} {x y : Str} {t u : Tok} {Q : Value → Shared → Prop} (h : Q (.bool (decide (x.cps.toList < y.cps.toList))) s) : wpAny (model prog w) A (richCompare .Lt (.str x t) (.str y u)) Q E s := PySem.P.lt_str h
theorem rc_gt {prog : Program} {w : World} {A : Around} {E : Value → Shared → Prop} {s : Shared} {x y : Str} {t u : Tok} {Q : Value → Shared → Prop} (h : Q (.bool (decide (y.cps.toList < x.cps.toList))) s) : wpAny (model prog w) A (richCompare .Gt (.str x t) (.str y u)) Q E s := PySem.P.gt_str h
theorem lt_loop (l b : Addr) (vs us : List Value) (n n2 : Nat) {vr : List Value} {xr : List Str} (hx : StrsAre vr xr) :
    ∀ (vd ud ur : List Value) (yr : List Str), vs = vd ++ vr → us = ud ++ ur → ud.length = vd.length → StrsAre ur yr → Meets (Builtin.«list.__eq__.loop» ⟨[.ref l, .ref b, rawInt vd.length, rawInt 0], []⟩)
      (fun _ R s => s.heap.get? l = some (rowObj vs n) ∧ s.heap.get? b = some (rowObj us n2) ∧ R (.ok (.ret (.bool (lexLt xr yr)))) s) := by
  induction hx with
  | nil =>
    intro vd ud ur yr ev eu ez hy prog w A R s h
    obtain ⟨hp, g, d, tk, os⟩ := s; obtain ⟨hl, hb, h⟩ := h
    have hi1 : vs.toArray[((vd.length : Nat) : Int).toNat]? = none := ev ▸ at_app vd []
    wp_walk using wpAny_loadPart' hl, wpAny_loadPart' hb
    rw [hi1]
    wp_walk using wpAny_loadPart' hl, wpAny_loadPart' hb
    show R (.ok (.ret (.bool (decide (vs.toArray.size < us.toArray.size))))) _
    rw [List.size_toArray, List.size_toArray, ev, eu, List.append_nil, List.length_append, ez]
    cases hy with
    | nil => exact ret_bool (decide_eq_false (Nat.lt_irrefl _)) h
    | cons y ty hy => exact ret_bool (decide_eq_true (Nat.lt_add_of_pos_right (Nat.succ_pos _))) h
  | cons x tx hx ih =>
    intro vd ud ur yr ev eu ez hy prog w A R s h
    obtain ⟨hp, g, d, tk, os⟩ := s; obtain ⟨hl, hb, h⟩ := h
    have hi1 : vs.toArray[((vd.length : Nat) : Int).toNat]? = some (.str x tx) := ev ▸ at_app vd _
    have hi2 : us.toArray[((vd.length : Nat) : Int).toNat]? = ur.head? := ez ▸ eu ▸ at_app ud ur
    wp_walk using wpAny_loadPart' hl, wpAny_loadPart' hb
    cases hy with
    | nil =>
      rw [hi1, hi2]
      wp_walk using wpAny_loadPart' hl, wpAny_loadPart' hb
      show R (.ok (.ret (.bool (decide (vs.toArray.size < us.toArray.size))))) _
      rw [List.size_toArray, List.size_toArray, ev, eu, List.append_nil, List.length_append, ez]
      exact ret_bool (decide_eq_false (Nat.not_lt.mpr (Nat.le_add_right _ _))) h
    | cons y ty hy =>
      replace hi2 : us.toArray[((vd.length : Nat) : Int).toNat]? = some (.str y ty) := hi2
      rw [hi1, hi2]
      refine wpAny_bind (wpAny_eqBool_str ?_)
      by_cases hxy : x = y
      · rw [decide_eq_true hxy]
        unfold lexLt at h
        rw [if_pos hxy] at h
        wp_walk
        have key := ih (vd ++ [.str x tx]) (ud ++ [.str y ty]) _ _ (ev.trans (List.append_cons ..)) (eu.trans (List.append_cons ..)) (by rw [List.length_append, List.length_append, ez]; rfl) hy prog w A R _ ⟨hl, hb, h⟩
        rw [List.length_append] at key
        exact go_on plain_eq_loop entry_eq_loop (key)
      · rw [decide_eq_false hxy]
        unfold lexLt at h
        rw [if_neg hxy] at h
        wp_walk using wpAny_loadPart' hl, wpAny_loadPart' hb
        rw [hi1, hi2]
        exact wpAny_bind (rc_lt (wpAny_pure h))
theorem gt_loop (l b : Addr) (vs us : List Value) (n n2 : Nat) {vr : List Value} {xr : List Str} (hx : StrsAre vr xr) :
    ∀ (vd ud ur : List Value) (yr : List Str), vs = vd ++ vr → us = ud ++ ur → ud.length = vd.length → StrsAre ur yr → Meets (Builtin.«list.__eq__.loop» ⟨[.ref l, .ref b, rawInt vd.length, rawInt 4], []⟩)
      (fun _ R s => s.heap.get? l = some (rowObj vs n) ∧ s.heap.get? b = some (rowObj us n2) ∧ R (.ok (.ret (.bool (lexLt yr xr)))) s) := by
  induction hx with
  | nil =>
    intro vd ud ur yr ev eu ez hy prog w A R s h
    obtain ⟨hp, g, d, tk, os⟩ := s; obtain ⟨hl, hb, h⟩ := h
    have hi1 : vs.toArray[((vd.length : Nat) : Int).toNat]? = none := ev ▸ at_app vd []
    wp_walk using wpAny_loadPart' hl, wpAny_loadPart' hb
    rw [hi1]
    wp_walk using wpAny_loadPart' hl, wpAny_loadPart' hb
    show R (.ok (.ret (.bool (decide (vs.toArray.size > us.toArray.size))))) _
    rw [List.size_toArray, List.size_toArray, ev, eu, List.append_nil, List.length_append, ez]
    cases hy with
    | nil => exact ret_bool (decide_eq_false (Nat.lt_irrefl _)) h
    | cons y ty hy => exact ret_bool (decide_eq_false (Nat.not_lt.mpr (Nat.le_add_right _ _))) h
  | cons x tx hx ih =>
    intro vd ud ur yr ev eu ez hy prog w A R s h
    obtain ⟨hp, g, d, tk, os⟩ := s; obtain ⟨hl, hb, h⟩ := h
    have hi1 : vs.toArray[((vd.length : Nat) : Int).toNat]? = some (.str x tx) := ev ▸ at_app vd _
    have hi2 : us.toArray[((vd.length : Nat) : Int).toNat]? = ur.head? := ez ▸ eu ▸ at_app ud ur
    wp_walk using wpAny_loadPart' hl, wpAny_loadPart' hb
    cases hy with
    | nil =>
      rw [hi1, hi2]
      wp_walk using wpAny_loadPart' hl, wpAny_loadPart' hb
      show R (.ok (.ret (.bool (decide (vs.toArray.size > us.toArray.size))))) _
      rw [List.size_toArray, List.size_toArray, ev, eu, List.append_nil, List.length_append, ez]
      exact ret_bool (decide_eq_true (Nat.lt_add_of_pos_right (Nat.succ_pos _))) h
    | cons y ty hy =>
      replace hi2 : us.toArray[((vd.length : Nat) : Int).toNat]? = some (.str y ty) := hi2
      rw [hi1, hi2]
      refine wpAny_bind (wpAny_eqBool_str ?_)
      by_cases hxy : x = y
      · rw [decide_eq_true hxy]
        unfold lexLt at h
        rw [if_pos hxy.symm] at h
        wp_walk
        have key := ih (vd ++ [.str x tx]) (ud ++ [.str y ty]) _ _ (ev.trans (List.append_cons ..)) (eu.trans (List.append_cons ..)) (by rw [List.length_append, List.length_append, ez]; rfl) hy prog w A R _ ⟨hl, hb, h⟩
        rw [List.length_append] at key
        exact go_on plain_eq_loop entry_eq_loop (key)
      · rw [decide_eq_false hxy]
        unfold lexLt at h
        rw [if_neg (fun e => hxy e.symm)] at h
        wp_walk using wpAny_loadPart' hl, wpAny_loadPart' hb
        rw [hi1, hi2]
        exact wpAny_bind (rc_gt (wpAny_pure h))
theorem list_lt (l b : Addr) (vs us : List Value) (xs ys : List Str) (n n2 : Nat) (hx : StrsAre vs xs) (hy : StrsAre us ys) : Meets (Builtin.«list.__lt__» ⟨[.ref l, .ref b], []⟩)
      (fun _ R s => s.heap.get? l = some (rowObj vs n) ∧ s.heap.get? b = some (rowObj us n2) ∧ R (.ok (.ret (.bool (lexLt xs ys)))) s) := by
  intro prog w A R s h
  obtain ⟨hp, g, d, tk, os⟩ := s; obtain ⟨hl, hb, h⟩ := h
  have f3 := AutoSeq1.sub_list_list
  wp_walk using wpAny_loadPart' hl, wpAny_loadPart' hb
  exact go_on plain_eq_loop entry_eq_loop (lt_loop l b vs us n n2 hx [] [] us ys rfl rfl rfl hy prog w A R _ ⟨hl, hb, h⟩)
theorem rich_lt {prog : Program} {w : World} {A : Around} {E : Value → Shared → Prop} {s : Shared} {l b : Addr} {vs us : List Value} {xs ys : List Str} {n n2 : Nat} {Q : Value → Shared → Prop} (hx : StrsAre vs xs) (hy : StrsAre us ys)
    (hl : s.heap.get? l = some (rowObj vs n)) (hb : s.heap.get? b = some (rowObj us n2)) (hu : A.units < cLine) (h : Q (.bool (lexLt xs ys)) s) : wpAny (model prog w) A (richCompare .Lt (.ref l) (.ref b)) Q E s :=
  wpAny_richCompare_same_or (T := "list") ⟨_, hl, rfl⟩ ⟨_, hb, rfl⟩ F.slot_list_lt
    (call_meets F.slot_list_lt ⟨_, hl, rfl⟩ F.entry_list_lt (F.args_list_lt_2 _ _) (list_lt l b vs us xs ys n n2 hx hy) (And.intro hl (And.intro hb (And.intro (fun e => nomatch e) h)))) (.inr hu)
theorem min_pair {prog : Program} {w : World} {A : Around} {E : Value → Shared → Prop} {s : Shared} {l : Addr} {v0 v1 : Value} {bt : Bool} {Q : Value → Shared → Prop} (hh : A.handled = none) (hl : s.heap.IsList l #[v0, v1])
    (hcmp : ∀ (s' : Shared) (Q E : Value → Shared → Prop), (∀ b o, s.heap.get? b = some o → s'.heap.get? b = some o) → Q (.bool bt) s' → wpAny (model prog w) A.in1 (richCompare .Lt v1 v0) Q E s')
    (hQ : ∀ h' tk, (∀ b o, s.heap.get? b = some o → h'.get? b = some o) → Q (if bt = true then v1 else v0) { s with heap := h', toks := tk }) :
    wpAny (model prog w) A (call (.builtin "min") [.ref l]) Q E s := by
  refine call_function_tree F.kind_min F.plain_min F.entry_min (F.args_min1 _) ?_
  show wpAny _ A.in1 (Builtin.Builtins.bindParams "min" ["key", "default"] 0 ⟨[], []⟩ >>= _) _ _ s
  refine wpAny_bind (wpAny_of_eq (show Builtin.Builtins.bindParams "min" ["key", "default"] 0 ⟨[], []⟩ = pure [none, none] from rfl) ?_)
  refine wpAny_bind (wpAny_pure ?_)
  refine wpAny_bind (wpAny_pyIter_list hl ?_)
  refine wpAny_bind (wpAny_newObj_type ?_)
  have hlt : @LT.lt Nat _ l s.heap.objs.size := by obtain ⟨o, ho, _⟩ := hl; exact Heap.lt_size ho
  have up : ∀ b o, s.heap.get? b = some o → ((s.heap.push { cls := .type "list_iterator", data := .fields #[.ref l, .int 0 0] }).push { cls := .type "list", data := .seq ([] : List Value).toArray }).get? b = some o := fun b o e => Heap.get?_push_of_some _ (Heap.get?_push_of_some _ e)
  have hIlt : @LT.lt Nat _ s.heap.objs.size (s.heap.push { cls := .type "list_iterator", data := .fields #[.ref l, .int 0 0] }).objs.size := by rw [Heap.size_push]; exact Nat.lt_succ_self _
  have hit0 : ((s.heap.push { cls := .type "list_iterator", data := .fields #[.ref l, .int 0 0] }).push { cls := .type "list", data := .seq ([] : List Value).toArray }).IsListIter s.heap.objs.size l 0 := ⟨_, Heap.get?_push_of_some _ (Heap.get?_push_size _ rfl), rfl, rfl⟩
  have hS0 : ((s.heap.push { cls := .type "list_iterator", data := .fields #[.ref l, .int 0 0] }).push { cls := .type "list", data := .seq ([] : List Value).toArray }).get? (s.heap.push { cls := .type "list_iterator", data := .fields #[.ref l, .int 0 0] }).objs.size = some { cls := .type "list", data := .seq ([] : List Value).toArray } := Heap.get?_push_size _ rfl
  have hl0 : ((s.heap.push { cls := .type "list_iterator", data := .fields #[.ref l, .int 0 0] }).push { cls := .type "list", data := .seq ([] : List Value).toArray }).IsList l #[v0, v1] := (hl.push _).push _
  dsimp only
  generalize ((s.heap.push { cls := .type "list_iterator", data := .fields #[.ref l, .int 0 0] }).push { cls := .type "list", data := .seq ([] : List Value).toArray }) = H0 at *
  have hSne : @LT.lt Nat _ s.heap.objs.size (s.heap.push { cls := .type "list_iterator", data := .fields #[.ref l, .int 0 0] }).objs.size := hIlt
  generalize (s.heap.push { cls := .type "list_iterator", data := .fields #[.ref l, .int 0 0] }).objs.size = S at *
  have oldS : ∀ b o, s.heap.get? b = some o → @Ne Nat b S := fun b o e => Nat.ne_of_lt (Nat.lt_trans (Heap.lt_size e) hSne)
  have oldI : ∀ b o, s.heap.get? b = some o → @Ne Nat b s.heap.objs.size := fun b o e => Nat.ne_of_lt (Heap.lt_size e)
  have lI : @Ne Nat l s.heap.objs.size := Nat.ne_of_lt hlt
  have lS : @Ne Nat l S := Nat.ne_of_lt (Nat.lt_trans hlt hSne)
  have IS : @Ne Nat s.heap.objs.size S := Nat.ne_of_lt hSne
  refine again_as (id' := "min.loop") (by decide) (wpAny_pure (go_on F.plain_min_loop F.entry_min_loop ?_))
  show wpAny _ A.in1 (seqItems? (.ref S) >>= _) _ _ _
  refine wpAny_bind (wpAny_seqItems hS0 rfl ?_)
  show wpAny _ A.in1 (tryCatch (pyNext (.ref s.heap.objs.size)) _ >>= _) _ _ _
  refine wpAny_bind (wpAny_tryCatch (wpAny_pyNext_list_item hit0 hl0 (x := v0) rfl fun h1 hit1 hs1 => ?_))
  have hS1 := hs1.extBut _ _ (Ne.symm IS) hS0
  show wpAny _ A.in1 (updateSeq S (fun _ => #[v0, v0]) >>= _) _ _ _
  refine wpAny_bind ?_
  refine wpAny_updateSeq hS1 rfl ?_
  have hS2 := Heap.get?_update_self (Obj.mapSeq (fun _ => #[v0, v0])) hS1 rfl
  have hit2 : (h1.update S (Obj.mapSeq (fun _ => #[v0, v0]))).IsListIter s.heap.objs.size l 1 := hit1.at fun o e => (Heap.get?_update_other _ _ (Ne.symm IS)).trans e
  have hl2 : (h1.update S (Obj.mapSeq (fun _ => #[v0, v0]))).IsList l #[v0, v1] := (hl0.extBut hs1.extBut lI).at fun o e => (Heap.get?_update_other _ _ (Ne.symm lS)).trans e
  have up2 : ∀ b o, s.heap.get? b = some o → (h1.update S (Obj.mapSeq (fun _ => #[v0, v0]))).get? b = some o := fun b o e => (Heap.get?_update_other _ _ (Ne.symm (oldS b o e))).trans (hs1.extBut b o (oldI b o e) (up b o e))
  dsimp only
  generalize (h1.update S (Obj.mapSeq (fun _ => #[v0, v0]))) = H2 at *
  refine again_as (id' := "min.loop") (by decide) (wpAny_pure (go_on F.plain_min_loop F.entry_min_loop ?_))
  show wpAny _ A.in1 (seqItems? (.ref S) >>= _) _ _ _
  refine wpAny_bind (wpAny_seqItems hS2 rfl ?_)
  show wpAny _ A.in1 (tryCatch (pyNext (.ref s.heap.objs.size)) _ >>= _) _ _ _
  refine wpAny_bind (wpAny_tryCatch (wpAny_pyNext_list_item hit2 hl2 (x := v1) rfl fun h3 hit3 hs3 => ?_))
  have hS3 := hs3.extBut _ _ (Ne.symm IS) hS2
  have hl3 := hl2.extBut hs3.extBut lI
  have up3 : ∀ b o, s.heap.get? b = some o → h3.get? b = some o := fun b o e => hs3.extBut b o (oldI b o e) (up2 b o e)
  show wpAny _ A.in1 (tryCatch (holding [v1, v1] (richCompare .Lt v1 v0 >>= _)) _ >>= _) _ _ _
  refine wpAny_bind (wpAny_tryCatch (wpAny_holding (wpAny_bind (hcmp _ _ _ up3 ?_))))
  refine wpAny_bind (wpAny_holding (wpAny_truthy_bool ?_))
  refine wpAny_bind (wpAny_letGo (wpAny_pure ?_))
  have fin : ∀ (vb : Value) (h4 : Heap) (tk4 : Nat) (c : Nat) (R : Result → Shared → Prop), h4.IsListIter s.heap.objs.size l 2 → h4.IsList l #[v0, v1] → h4.get? S = some { cls := .type "list", dict := none, data := .seq #[vb, vb] c, slots := #[] } → (∀ b o, s.heap.get? b = some o → h4.get? b = some o) → (∀ h' tk, (∀ b o, s.heap.get? b = some o → h'.get? b = some o) → R (.ok (.ret vb)) { s with heap := h', toks := tk }) →
      codeAny (model prog w) A (.builtin "min.loop" ⟨[.ref s.heap.objs.size, .none, .ref S], []⟩) R { s with heap := h4, toks := tk4 } := by
    intro vb h4 tk4 c R hit4 hl4 hS4 up4 hq
    refine run_plain F.plain_min_loop F.entry_min_loop ?_
    show wpAny _ A.in1 (seqItems? (.ref S) >>= _) _ _ _
    refine wpAny_bind (wpAny_seqItems hS4 rfl ?_)
    show wpAny _ A.in1 (tryCatch (pyNext (.ref s.heap.objs.size)) _ >>= _) _ _ _
    refine wpAny_bind (wpAny_tryCatch (wpAny_pyNext_list_end hh hit4 hl4 rfl fun h5 hs5 => ?_))
    have hS5 := hs5 _ _ (Ne.symm IS) hS4
    show wpAny _ A.in1 (updateSeq S (fun _ => #[]) >>= _) _ _ _
    refine wpAny_bind ?_
    refine wpAny_updateSeq hS5 rfl (wpAny_bind (wpAny_letGo (wpAny_pure ?_)))
    exact hq _ _ fun b o e => (Heap.get?_update_other _ _ (Ne.symm (oldS b o e))).trans (hs5 b o (oldI b o e) (up4 b o e))
  cases hb : bt with
  | true =>
    rw [hb] at hQ
    simp only [if_true] at hQ ⊢
    refine wpAny_bind ?_
    refine wpAny_updateSeq hS3 rfl (wpAny_bind (wpAny_letGo ?_))
    exact again_as (id' := "min.loop") (by decide) <| wpAny_pure ⟨plainId_quiet F.plain_min_loop _, fin v1 _ _ _ _ (hit3.at fun o e => (Heap.get?_update_other _ _ (Ne.symm IS)).trans e) (hl3.at fun o e => (Heap.get?_update_other _ _ (Ne.symm lS)).trans e) (Heap.get?_update_self _ hS3 rfl) (fun b o e => (Heap.get?_update_other _ _ (Ne.symm (oldS b o e))).trans (up3 b o e)) hQ⟩
  | false =>
    rw [hb] at hQ
    simp only [Bool.false_eq_true, if_false] at hQ ⊢
    refine wpAny_bind (wpAny_letGo ?_)
    exact again_as (id' := "min.loop") (by decide) <| wpAny_pure ⟨plainId_quiet F.plain_min_loop _, fin v0 _ _ _ _ hit3 hl3 hS3 up3 hQ⟩
theorem list_gt (l b : Addr) (vs us : List Value) (xs ys : List Str) (n n2 : Nat) (hx : StrsAre vs xs) (hy : StrsAre us ys) : Meets (Builtin.«list.__gt__» ⟨[.ref l, .ref b], []⟩)
      (fun _ R s => s.heap.get? l = some (rowObj vs n) ∧ s.heap.get? b = some (rowObj us n2) ∧ R (.ok (.ret (.bool (lexLt ys xs)))) s) := by
  intro prog w A R s h
  obtain ⟨hp, g, d, tk, os⟩ := s; obtain ⟨hl, hb, h⟩ := h
  have f3 := AutoSeq1.sub_list_list
  wp_walk using wpAny_loadPart' hl, wpAny_loadPart' hb
  exact go_on plain_eq_loop entry_eq_loop (gt_loop l b vs us n n2 hx [] [] us ys rfl rfl rfl hy prog w A R _ ⟨hl, hb, h⟩)
theorem rich_gt {prog : Program} {w : World} {A : Around} {E : Value → Shared → Prop} {s : Shared} {l b : Addr} {vs us : List Value} {xs ys : List Str} {n n2 : Nat} {Q : Value → Shared → Prop} (hx : StrsAre vs xs) (hy : StrsAre us ys)
    (hl : s.heap.get? l = some (rowObj vs n)) (hb : s.heap.get? b = some (rowObj us n2)) (hu : A.units < cLine) (h : Q (.bool (lexLt ys xs)) s) : wpAny (model prog w) A (richCompare .Gt (.ref l) (.ref b)) Q E s :=
  wpAny_richCompare_same_or (T := "list") ⟨_, hl, rfl⟩ ⟨_, hb, rfl⟩ F.slot_list_gt
    (call_meets F.slot_list_gt ⟨_, hl, rfl⟩ F.entry_list_gt (F.args_list_gt_2 _ _) (list_gt l b vs us xs ys n n2 hx hy) (And.intro hl (And.intro hb (And.intro (fun e => nomatch e) h)))) (.inr hu)
theorem max_pair {prog : Program} {w : World} {A : Around} {E : Value → Shared → Prop} {s : Shared} {l : Addr} {v0 v1 : Value} {bt : Bool} {Q : Value → Shared → Prop} (hh : A.handled = none) (hl : s.heap.IsList l #[v0, v1])
    (hcmp : ∀ (s' : Shared) (Q E : Value → Shared → Prop), (∀ b o, s.heap.get? b = some o → s'.heap.get? b = some o) → Q (.bool bt) s' → wpAny (model prog w) A.in1 (richCompare .Gt v1 v0) Q E s')
    (hQ : ∀ h' tk, (∀ b o, s.heap.get? b = some o → h'.get? b = some o) → Q (if bt = true then v1 else v0) { s with heap := h', toks := tk }) :
    wpAny (model prog w) A (call (.builtin "max") [.ref l]) Q E s := by
  refine call_function_tree F.kind_max F.plain_max F.entry_max (F.args_max1 _) ?_
  show wpAny _ A.in1 (Builtin.Builtins.bindParams "max" ["key", "default"] 0 ⟨[], []⟩ >>= _) _ _ s
  refine wpAny_bind (wpAny_of_eq (show Builtin.Builtins.bindParams "max" ["key", "default"] 0 ⟨[], []⟩ = pure [none, none] from rfl) ?_)
  refine wpAny_bind (wpAny_pure ?_)
  refine wpAny_bind (wpAny_pyIter_list hl ?_)
  refine wpAny_bind (wpAny_newObj_type ?_)
  have hlt : @LT.lt Nat _ l s.heap.objs.size := by obtain ⟨o, ho, _⟩ := hl; exact Heap.lt_size ho
  have up : ∀ b o, s.heap.get? b = some o → ((s.heap.push { cls := .type "list_iterator", data := .fields #[.ref l, .int 0 0] }).push { cls := .type "list", data := .seq ([] : List Value).toArray }).get? b = some o := fun b o e => Heap.get?_push_of_some _ (Heap.get?_push_of_some _ e)
  have hIlt : @LT.lt Nat _ s.heap.objs.size (s.heap.push { cls := .type "list_iterator", data := .fields #[.ref l, .int 0 0] }).objs.size := by rw [Heap.size_push]; exact Nat.lt_succ_self _
  have hit0 : ((s.heap.push { cls := .type "list_iterator", data := .fields #[.ref l, .int 0 0] }).push { cls := .type "list", data := .seq ([] : List Value).toArray }).IsListIter s.heap.objs.size l 0 := ⟨_, Heap.get?_push_of_some _ (Heap.get?_push_size _ rfl), rfl, rfl⟩
  have hS0 : ((s.heap.push { cls := .type "list_iterator", data := .fields #[.ref l, .int 0 0] }).push { cls := .type "list", data := .seq ([] : List Value).toArray }).get? (s.heap.push { cls := .type "list_iterator", data := .fields #[.ref l, .int 0 0] }).objs.size = some { cls := .type "list", data := .seq ([] : List Value).toArray } := Heap.get?_push_size _ rfl
  have hl0 : ((s.heap.push { cls := .type "list_iterator", data := .fields #[.ref l, .int 0 0] }).push { cls := .type "list", data := .seq ([] : List Value).toArray }).IsList l #[v0, v1] := (hl.push _).push _
  dsimp only
  generalize ((s.heap.push { cls := .type "list_iterator", data := .fields #[.ref l, .int 0 0] }).push { cls := .type "list", data := .seq ([] : List Value).toArray }) = H0 at *
  have hSne : @LT.lt Nat _ s.heap.objs.size (s.heap.push { cls := .type "list_iterator", data := .fields #[.ref l, .int 0 0] }).objs.size := hIlt
  generalize (s.heap.push { cls := .type "list_iterator", data := .fields #[.ref l, .int 0 0] }).objs.size = S at *
  have oldS : ∀ b o, s.heap.get? b = some o → @Ne Nat b S := fun b o e => Nat.ne_of_lt (Nat.lt_trans (Heap.lt_size e) hSne)
  have oldI : ∀ b o, s.heap.get? b = some o → @Ne Nat b s.heap.objs.size := fun b o e => Nat.ne_of_lt (Heap.lt_size e)
  have lI : @Ne Nat l s.heap.objs.size := Nat.ne_of_lt hlt
  have lS : @Ne Nat l S := Nat.ne_of_lt (Nat.lt_trans hlt hSne)
  have IS : @Ne Nat s.heap.objs.size S := Nat.ne_of_lt hSne
  refine again_as (id' := "max.loop") (by decide) (wpAny_pure (go_on F.plain_max_loop F.entry_max_loop ?_))
  show wpAny _ A.in1 (seqItems? (.ref S) >>= _) _ _ _
  refine wpAny_bind (wpAny_seqItems hS0 rfl ?_)
  show wpAny _ A.in1 (tryCatch (pyNext (.ref s.heap.objs.size)) _ >>= _) _ _ _
  refine wpAny_bind (wpAny_tryCatch (wpAny_pyNext_list_item hit0 hl0 (x := v0) rfl fun h1 hit1 hs1 => ?_))
  have hS1 := hs1.extBut _ _ (Ne.symm IS) hS0
  show wpAny _ A.in1 (updateSeq S (fun _ => #[v0, v0]) >>= _) _ _ _
  refine wpAny_bind ?_
  refine wpAny_updateSeq hS1 rfl ?_
  have hS2 := Heap.get?_update_self (Obj.mapSeq (fun _ => #[v0, v0])) hS1 rfl
  have hit2 : (h1.update S (Obj.mapSeq (fun _ => #[v0, v0]))).IsListIter s.heap.objs.size l 1 := hit1.at fun o e => (Heap.get?_update_other _ _ (Ne.symm IS)).trans e
  have hl2 : (h1.update S (Obj.mapSeq (fun _ => #[v0, v0]))).IsList l #[v0, v1] := (hl0.extBut hs1.extBut lI).at fun o e => (Heap.get?_update_other _ _ (Ne.symm lS)).trans e
  have up2 : ∀ b o, s.heap.get? b = some o → (h1.update S (Obj.mapSeq (fun _ => #[v0, v0]))).get? b = some o := fun b o e => (Heap.get?_update_other _ _ (Ne.symm (oldS b o e))).trans (hs1.extBut b o (oldI b o e) (up b o e))
  dsimp only
  generalize (h1.update S (Obj.mapSeq (fun _ => #[v0, v0]))) = H2 at *
  refine again_as (id' := "max.loop") (by decide) (wpAny_pure (go_on F.plain_max_loop F.entry_max_loop ?_))
  show wpAny _ A.in1 (seqItems? (.ref S) >>= _) _ _ _
  refine wpAny_bind (wpAny_seqItems hS2 rfl ?_)
  show wpAny _ A.in1 (tryCatch (pyNext (.ref s.heap.objs.size)) _ >>= _) _ _ _
  refine wpAny_bind (wpAny_tryCatch (wpAny_pyNext_list_item hit2 hl2 (x := v1) rfl fun h3 hit3 hs3 => ?_))
  have hS3 := hs3.extBut _ _ (Ne.symm IS) hS2
  have hl3 := hl2.extBut hs3.extBut lI
  have up3 : ∀ b o, s.heap.get? b = some o → h3.get? b = some o := fun b o e => hs3.extBut b o (oldI b o e) (up2 b o e)
  show wpAny _ A.in1 (tryCatch (holding [v1, v1] (richCompare .Gt v1 v0 >>= _)) _ >>= _) _ _ _
  refine wpAny_bind (wpAny_tryCatch (wpAny_holding (wpAny_bind (hcmp _ _ _ up3 ?_))))
  refine wpAny_bind (wpAny_holding (wpAny_truthy_bool ?_))
  refine wpAny_bind (wpAny_letGo (wpAny_pure ?_))
  have fin : ∀ (vb : Value) (h4 : Heap) (tk4 : Nat) (c : Nat) (R : Result → Shared → Prop), h4.IsListIter s.heap.objs.size l 2 → h4.IsList l #[v0, v1] → h4.get? S = some { cls := .type "list", dict := none, data := .seq #[vb, vb] c, slots := #[] } → (∀ b o, s.heap.get? b = some o → h4.get? b = some o) → (∀ h' tk, (∀ b o, s.heap.get? b = some o → h'.get? b = some o) → R (.ok (.ret vb)) { s with heap := h', toks := tk }) →
      codeAny (model prog w) A (.builtin "max.loop" ⟨[.ref s.heap.objs.size, .none, .ref S], []⟩) R { s with heap := h4, toks := tk4 } := by
    intro vb h4 tk4 c R hit4 hl4 hS4 up4 hq
    refine run_plain F.plain_max_loop F.entry_max_loop ?_
    show wpAny _ A.in1 (seqItems? (.ref S) >>= _) _ _ _
    refine wpAny_bind (wpAny_seqItems hS4 rfl ?_)
    show wpAny _ A.in1 (tryCatch (pyNext (.ref s.heap.objs.size)) _ >>= _) _ _ _
    refine wpAny_bind (wpAny_tryCatch (wpAny_pyNext_list_end hh hit4 hl4 rfl fun h5 hs5 => ?_))
    have hS5 := hs5 _ _ (Ne.symm IS) hS4
    show wpAny _ A.in1 (updateSeq S (fun _ => #[]) >>= _) _ _ _
    refine wpAny_bind ?_
    refine wpAny_updateSeq hS5 rfl (wpAny_bind (wpAny_letGo (wpAny_pure ?_)))
    exact hq _ _ fun b o e => (Heap.get?_update_other _ _ (Ne.symm (oldS b o e))).trans (hs5 b o (oldI b o e) (up4 b o e))
  cases hb : bt with
  | true =>
    rw [hb] at hQ
    simp only [if_true] at hQ ⊢
    refine wpAny_bind ?_
    refine wpAny_updateSeq hS3 rfl (wpAny_bind (wpAny_letGo ?_))
    exact again_as (id' := "max.loop") (by decide) <| wpAny_pure ⟨plainId_quiet F.plain_max_loop _, fin v1 _ _ _ _ (hit3.at fun o e => (Heap.get?_update_other _ _ (Ne.symm IS)).trans e) (hl3.at fun o e => (Heap.get?_update_other _ _ (Ne.symm lS)).trans e) (Heap.get?_update_self _ hS3 rfl) (fun b o e => (Heap.get?_update_other _ _ (Ne.symm (oldS b o e))).trans (up3 b o e)) hQ⟩
  | false =>
    rw [hb] at hQ
    simp only [Bool.false_eq_true, if_false] at hQ ⊢
    refine wpAny_bind (wpAny_letGo ?_)
    exact again_as (id' := "max.loop") (by decide) <| wpAny_pure ⟨plainId_quiet F.plain_max_loop _, fin v0 _ _ _ _ hit3 hl3 hS3 up3 hQ⟩
end Mine

namespace Mine
theorem lex_asymm : ∀ xs ys : List Str, lexLt xs ys = true → lexLt ys xs = false
  | [], [], _ => rfl
  | [], _ :: _, _ => rfl
  | _ :: _, [], h => by cases h
  | x :: xs, y :: ys, h => by
    unfold lexLt at h ⊢
    by_cases e : x = y
    · rw [if_pos e] at h
      rw [if_pos e.symm]
      exact lex_asymm xs ys h
    · rw [if_neg e] at h
      rw [if_neg (fun q => e q.symm)]
      exact decide_eq_false (List.lt_asymm (of_decide_eq_true h))
theorem lex_total : ∀ xs ys : List Str, lexLt xs ys = false → lexLt ys xs = false → xs = ys
  | [], [], _, _ => rfl
  | [], _ :: _, h, _ => by cases h
  | _ :: _, [], _, h => by cases h
  | x :: xs, y :: ys, h1, h2 => by
    unfold lexLt at h1 h2
    by_cases e : x = y
    · rw [if_pos e] at h1
      rw [if_pos e.symm] at h2
      rw [e, lex_total xs ys h1 h2]
    · rw [if_neg e] at h1
      rw [if_neg (fun q => e q.symm)] at h2
      have h3 := of_decide_eq_false h1
      have h4 := of_decide_eq_false h2
      exact absurd (Str.ext' (Array.toList_inj.mp (List.le_antisymm h4 h3))) e
theorem lex_room : ∀ (xs ys : List Str) (i : Nat), lexLt xs ys = true → xs.take i = ys.take i → i < xs.length → i < ys.length
  | [], _, _, _, _, h => by cases h
  | _ :: _, [], _, h, _, _ => by cases h
  | _ :: _, _ :: _, 0, _, _, _ => by simp
  | x :: xs, y :: ys, i + 1, h, e, hi => by
    rw [List.take_succ_cons, List.take_succ_cons] at e
    injection e with e1 e2
    unfold lexLt at h
    rw [if_pos e1] at h
    have := lex_room xs ys i h e2 (by simpa using hi)
    simpa using this
theorem cpre_break : ∀ (xs ys : List Str) (i : Nat) (c d : Str), xs.take i = ys.take i → xs[i]? = some c → ys[i]? = some d → c ≠ d → cpre xs ys = xs.take i
  | [], _, _, _, _, _, h, _, _ => by simp at h
  | _ :: _, [], _, _, _, _, _, h, _ => by simp at h
  | x :: xs, y :: ys, 0, c, d, _, h1, h2, hn => by
    obtain rfl : x = c := by simpa using h1
    obtain rfl : y = d := by simpa using h2
    exact if_neg hn
  | x :: xs, y :: ys, i + 1, c, d, e, h1, h2, hn => by
    rw [List.take_succ_cons, List.take_succ_cons] at e
    injection e with e1 e2
    show (if x = y then x :: cpre xs ys else []) = _
    rw [if_pos e1, List.take_succ_cons, cpre_break xs ys i c d e2 (by simpa using h1) (by simpa using h2) hn]
theorem cpre_whole : ∀ (xs ys : List Str), xs.take xs.length = ys.take xs.length → cpre xs ys = xs
  | [], ys, _ => by cases ys <;> rfl
  | x :: xs, [], h => by simp at h
  | x :: xs, y :: ys, h => by
    rw [List.length_cons, List.take_succ_cons, List.take_succ_cons] at h
    injection h with e1 e2
    show (if x = y then x :: cpre xs ys else []) = _
    rw [if_pos e1, cpre_whole xs ys e2]
theorem cpre_comm : ∀ (xs ys : List Str), cpre xs ys = cpre ys xs
  | [], [] => rfl
  | [], _ :: _ => rfl
  | _ :: _, [] => rfl
  | x :: xs, y :: ys => by
    show (if x = y then x :: cpre xs ys else []) = if y = x then y :: cpre ys xs else []
    by_cases e : x = y
    · rw [if_pos e, if_pos e.symm, cpre_comm xs ys, e]
    · rw [if_neg e, if_neg (fun q => e q.symm)]
structure LoHi (xs ys lo hi : List Str) : Prop where
  room : ∀ i, lo.take i = hi.take i → i < lo.length → i < hi.length
  same : cpre lo hi = cpre xs ys
noncomputable def lesser (xs ys : List Str) : List Str := if lexLt ys xs = true then ys else xs
noncomputable def greater (xs ys : List Str) : List Str := if lexLt xs ys = true then ys else xs
theorem lohi (xs ys : List Str) : LoHi xs ys (lesser xs ys) (greater xs ys) := by
  unfold lesser greater
  cases h1 : lexLt ys xs with
  | true =>
    rw [lex_asymm _ _ h1]
    exact ⟨fun i e hi => lex_room _ _ i h1 e hi, cpre_comm _ _⟩
  | false =>
    cases h2 : lexLt xs ys with
    | true => exact ⟨fun i e hi => lex_room _ _ i h2 e hi, rfl⟩
    | false =>
      obtain rfl := lex_total _ _ h2 h1
      exact ⟨fun i _ hi => hi, rfl⟩
end Mine

namespace Mine
section
open LCg
section
variable {c : Cx} {env : Env} {m : Str → Option Value} {nw : List (Addr × Obj)} {pos p ap pf sp : Pos} {kk k : Nat} {e f o a b i l : Expr} {es : List Expr}
theorem g_tuple : Gb (Str.ofString "tuple") (.type "tuple") := ⟨fun _ => by kernel_rfl, rfl, by decide⟩
theorem g_map : Gb (Str.ofString "map") (.type "map") := ⟨fun _ => by kernel_rfl, rfl, by decide⟩
theorem g_max : Gb (Str.ofString "max") (.builtin "max") := ⟨fun _ => by kernel_rfl, rfl, by decide⟩
theorem g_enumerate : Gb (Str.ofString "enumerate") (.type "enumerate") := ⟨fun _ => by kernel_rfl, rfl, by decide⟩
noncomputable def in4 (c : Cx) : Cx := ⟨c.w, c.A.in1.in1.in1.in1, c.h₀, c.L⟩
theorem Ok.in4 (O : Ok c (k + 1)) : Ok (in4 c) k := ⟨O.X, O.T, O.B, O.hh, (O.le (Nat.le_succ k)).hd, by
  have := O.hu
  exact Nat.lt_of_le_of_lt (Nat.add_le_add_right (Nat.add_le_add_left (show 4 ≤ 16 by decide) c.A.units) (16 * k)) (by rw [Nat.add_assoc, Nat.add_comm 16]; exact this)⟩
theorem EvN.tmap {xs : List Value} {la fa : Addr} {p1 p2 p3 : Pos} (O : Ok c (k + 1)) (hf : Ev c env m nw f (· = .ref fa)) (hl : Ev c env m nw l (· = .ref la)) (hm : LAt xs nw la) (hz : xs.length ≤ 1000) (D : ∀ x ∈ xs, ∀ nw', Dz k fa [x] nw' (fun r tl => r = x ∧ tl = []))
    (hk : env.scope.kind = .function) (hx : env.kindOf (Str.ofString "tuple") = some .globalImplicit) (hx' : env.kindOf (Str.ofString "map") = some .globalImplicit) (hg : env.globals = mainGlobals) (hb : env.builtins = builtinsNs)
    (he : eval (.Call (.Name (Str.ofString "tuple") p1) [.Call (.Name (Str.ofString "map") p2) [f, l] [] p3] [] pos) env = (do callWith pos (← eval (.Name (Str.ofString "tuple") p1) env) [] (backTo pos (starEach [.Call (.Name (Str.ofString "map") p2) [f, l] [] p3] env)) (backToKw pos (keywordEach [] env))))
    (he' : eval (.Call (.Name (Str.ofString "map") p2) [f, l] [] p3) env = (do callWith p3 (← eval (.Name (Str.ofString "map") p2) env) [] (backTo p3 (starEach [f, l] env)) (backToKw p3 (keywordEach [] env))))
    (hs : starEach [.Call (.Name (Str.ofString "map") p2) [f, l] [] p3] env = (false, eval (.Call (.Name (Str.ofString "map") p2) [f, l] [] p3) env) :: starEach [] env) (hs1 : starEach [f, l] env = (false, eval f env) :: starEach [l] env) (hs2 : starEach [l] env = (false, eval l env) :: starEach [] env) (hp : (backTo p3 (starEach [l] env)).any (·.1) = false) :
    EvN c env m nw (.Call (.Name (Str.ofString "tuple") p1) [.Call (.Name (Str.ofString "map") p2) [f, l] [] p3] [] pos) (fun v tl => ∃ t, v = .ref t ∧ tl = [(t, tupObj xs)]) := fun s h tk Q C kq E =>
  Call_ (Ev.bname (pos := p1) O g_tuple hk hx hg hb (by decide) s h tk _ C (fun v h1 tk1 C1 ev => by
    subst ev
    refine Pv.callWith_type1 (args_cons (Call_ (Ev.bname (pos := p2) O g_map hk hx' hg hb (by decide) s h1 tk1 _ C1 (fun v h2 tk2 C2 ev => by
      subst ev
      refine Pv.callWith_type1 (Evs.two hf hl hs1 hs2 s h2 tk2 p3 _ C2 (fun vs h3 tk3 C3 q1z => ?_) E) hs1 hp
      obtain ⟨v, u, e, e1, e2⟩ := q1z
      subst e e1 e2
      obtain ⟨nn, hm⟩ := hm
      refine call_map_at (s := { s with heap := h3, toks := tk3 }) C3.F C3.N hm fun z TI it h4 M => args_nil ?_
      exact tuple_map (s := { s with heap := h4, toks := tk3 }) O.hh M hm (fun x hx s nw' Q E F N kq => D x hx nw' (Mine.in4 c) m s s.heap s.toks Q O.in4 ⟨F, N⟩ (fun r tl h' tk' C' _ q2z => by obtain ⟨e, e1⟩ := q2z; subst e e1; exact kq h' tk' C'.F C'.N) E) hz fun t h' tk' F' N' lt => kq _ [_] h' tk' ⟨F', N'⟩ (one_ord fun p hp => Nat.ne_of_lt (lt p hp)) ⟨t, rfl, rfl⟩) E) he') hs) hs rfl) E) he
theorem Tv.tup {t : Addr} {xs : List Value} (hm : (t, tupObj xs) ∈ nw) (hz : xs.length ≤ 1000) (h : Ev c env m nw e (· = .ref t)) (he : isTrue e env (eval e env) = (do let v ← eval e env; standAt e.pos; holding [v] (truthy v))) : Tv c env m nw e (!xs.isEmpty) := fun s hh tk Q C k E =>
  isTrue_plain (h s hh tk _ C (fun v h1 tk1 C1 e => by subst e; exact W.ktl_truthyK (s := { s with heap := h1, toks := tk1 }) C1.N hm hz (k _ _ C1)) E) he
theorem Ev.tupAt {t : Addr} {xs : List Value} {j : Int} {n : Nat} {x : Value} (hm : (t, tupObj xs) ∈ nw) (h0 : -2 ^ 63 ≤ j) (h1 : j < 2 ^ 63) (hj : seqIndex? j xs.length = some n) (hx : xs[n]? = some x) (ho : Ev c env m nw o (· = .ref t)) (hi : Ev c env m nw i (IsI j))
    (hs : ∀ t k u, subscripted i false (.ref t) (.int k u) = operate [.ref t, .int k u] (getItem (.ref t) (.int k u))) : Ev c env m nw (.Subscript o i pos) (· = x) := fun s h tk Q C kq E =>
  Subscript_ (ho s h tk _ C (fun v h1' tk1 C1 e => hi s h1' tk1 _ C1 (fun u h2 tk2 C2 q3z => by
    obtain ⟨t, e2⟩ := q3z
    subst e e2
    exact item_tupleT (s := { s with heap := h2, toks := tk2 }) ⟨_, C2.N.get hm, rfl, _, rfl⟩ h0 h1 hj hx (kq _ _ _ C2 rfl) (hs _ _ _)) E) E)
theorem EvN.set {elt iter : Expr} {x : Str} {px : Pos} {scope : Scope} {cl : List (Str × Addr)} {n : Nat} {P : Nat → Value → Prop} {S : List (Addr × Obj) → Prop} (d : Src c env m nw iter n P S) (hn : 0 < n) (turn : ∀ i v I oI C oC D oD m₂, i < n → P i v → NsObj oC m₂ → m₂ x = some v → Ev c (compEnvC scope cl C env) m ((I, oI) :: (C, oC) :: (D, oD) :: nw) elt (· = .bool true))
    (hclos : closureFor scope env = pure cl) (hcell : ∀ y ∈ scope.names, y.2 ≠ .cell) (hkind : scope.kind = .function) (hx : scope.names.lookup x = some .local)
    (hnames : ∀ y ∈ scope.names, y.2 = .local → scope.names.lookup y.1 = some .local) (hs : ∀ x, foldedSetIterable iter env x = pure x) : EvN c env m nw (.SetComp elt [⟨.Name x px, iter, [], 0⟩] scope pos) (fun v tl => ∃ D, v = .ref D ∧ tl = [(D, set1 PR c.w)]) := fun s h tk Q C kq E =>
  set_E (s := { s with heap := h, toks := tk }) hclos hcell hkind hnames hx hn (fun Q' k => d s h tk Q' C k E) (fun i v I oI C oC D oD m₂ h tk R hi hv hC hx F N hR => turn i v I oI C oC D oD m₂ hi hv hC hx s h tk R ⟨F, N⟩ (fun v h' tk' C' e => e ▸ hR h' tk' C'.F C'.N) _) (fun D h' tk' F' N' off => kq _ [_] h' tk' ⟨F', N'⟩ (one_ord off) ⟨D, rfl, rfl⟩) hs
section
variable {s : Shared} {h : Heap} {tk : Nat} {Q : Flow → Shared → Prop} {rest body orelse : List Stmt} {x y : Str}
theorem go_set1 {px tpos : Pos} {kt : Nat} (O : Ok c k) (C : Cur c m nw h) (d : EvN c env m nw e (fun v tl => ∃ D, v = .ref D ∧ tl = [(D, set1 PR c.w)])) (kq : ∀ m' h' tk', Cur c m' nw h' → m' x = some (.bool true) → (∀ z w, z ≠ x → m z = some w → m' z = some w) → Go c env rest Q s h' tk')
    (hL : env.locals = c.L) (hl : env.kindOf x = some .local) (hp : (env.scope.kind == .class || (env.scope.kind == .module && env.locals != env.globals)) = false)
    (h1 : swapsWithSole [.Tuple [.Name x px] kt tpos] e pos.line env = pure false) (h2 : swappedStores [.Tuple [.Name x px] kt tpos] e env = pure none) :
    Go c env (.Assign [.Tuple [.Name x px] kt tpos] e pos :: rest) Q s h tk :=
  go_seq fun E => Assign_Tuple (d s h tk _ C (fun v tl h1 tk1 C1 _ q5z => by
    obtain ⟨D, e, e1⟩ := q5z
    subst e e1
    exact unpack_set1 (s := { s with heap := h1, toks := tk1 }) O.hh C1.F C1.N (.head _) fun h' F' N' => store_go (Q := fun _ s' => wpAny (model PR c.w) c.A (execs rest env) Q E s') ⟨F', drop1 N'⟩ hL hl hp (fun m2 h3 tk3 C3 ex kp => kq m2 h3 tk3 C3 ex kp E) E) E) h1 h2
theorem go_enum {la : Addr} {vs : List Value} {px py pt : Pos} {kt : Nat} (O : Ok c k) (C : Cur c m nw h) (hm : LAt vs nw la) (hl : Ev c env m nw l (· = .ref la)) (J : Nat → (Str → Option Value) → Prop) (K : (Str → Option Value) → List (Addr × Obj) → Prop) (h0 : J 0 m)
    (turn : ∀ i v m₁ e oE it oI tk₀ h tk (R : Flow → Shared → Prop), vs[i]? = some v → J i m₁ → Cur c (fun z => if z = y then some v else if z = x then some (.int i tk₀) else m₁ z) ((e, oE) :: (it, oI) :: nw) h → (∀ h' tk' m', Cur c m' ((e, oE) :: (it, oI) :: nw) h' → J (i + 1) m' → R .next { s with heap := h', toks := tk' }) →
      (∀ h' tk' m' nw', Cur c m' nw' h' → K m' nw' → R .brk { s with heap := h', toks := tk' }) → Go c env body R s h tk)
    (fin : ∀ m₁, J vs.length m₁ → K m₁ nw) (out : ∀ m₁ nw h tk, K m₁ nw → Cur c m₁ nw h → Go c env rest Q s h tk)
    (hL : env.locals = c.L) (hx : env.kindOf x = some .local) (hy : env.kindOf y = some .local) (hp : (env.scope.kind == .class || (env.scope.kind == .module && env.locals != env.globals)) = false)
    (hk : env.scope.kind = .function) (hx' : env.kindOf (Str.ofString "enumerate") = some .globalImplicit) (hg : env.globals = mainGlobals) (hb : env.builtins = builtinsNs)
    (he : eval (.Call (.Name (Str.ofString "enumerate") pf) [l] [] ap) env = (do callWith ap (← eval (.Name (Str.ofString "enumerate") pf) env) [] (backTo ap (starEach [l] env)) (backToKw ap (keywordEach [] env)))) (hst : starEach [l] env = (false, eval l env) :: starEach [] env)
    (hs : ∀ x, foldedSetIterable (.Call (.Name (Str.ofString "enumerate") pf) [l] [] ap) env x = pure x) :
    Go c env (.For (.Tuple [.Name x px, .Name y py] kt pt) (.Call (.Name (Str.ofString "enumerate") pf) [l] [] ap) body [] pos :: rest) Q s h tk := by
  cases c with | mk w A h₀ L =>
  cases hL
  exact go_seq fun E => wpAny_For (Call_ (Ev.bname (pos := pf) O g_enumerate hk hx' hg hb (by decide) s h tk _ C (fun v h1 tk1 C1 ev => by
    subst ev
    refine Pv.callWith_type1 (Evs.one hl hst s h1 tk1 ap _ C1 (fun us h2 tk2 C2 q6z => ?_) E) hst rfl
    obtain ⟨v, e, e1⟩ := q6z
    subst e e1
    obtain ⟨nn, hm⟩ := hm
    refine enum_at (s := { s with heap := h2, toks := tk2 }) C2.F C2.N hm fun e it h3 M => wpAny_pyIter_enum M.he ?_
    exact enum_R M O.hh hx hy hp J K h0 (fun i v tk₀ m₁ h tk oE oI R hv hJ F N hR hB => turn i v m₁ e oE it oI tk₀ h tk R (by simpa using hv) hJ ⟨F, N⟩ (fun h' tk' m' C' => hR h' tk' m' C'.F C'.N) (fun h' tk' m' nw' C' => hB h' tk' m' nw' C'.F C'.N) _) (fun m₁ hJ => fin m₁ (by simpa using hJ)) fun m₁ nw h tk hK F N => out m₁ nw h tk hK ⟨F, N⟩ E) E) he) hs
end
end
end
end Mine

namespace Mine
noncomputable def pick (n q : Nat) : Nat → Nat
  | 0 => n
  | _ + 1 => q
theorem pick_lt {n q : Nat} (h1 : n < 4096) (h2 : q < 4096) : ∀ i, pick n q i < 4096
  | 0 => h1
  | _ + 1 => h2
theorem startswith_way (ws : List Str) : PySem.Txt.startswith (wayOf ws) slash = true := by
  have e : L (wayOf ws) = 47 :: L (PySem.Txt.join slash ws) := by unfold wayOf; rw [L_append, L_slash]; rfl
  have el := len_L (wayOf ws)
  unfold PySem.Txt.startswith
  rw [StrLaws.subAt_eq, len_L slash, L_slash]
  show (decide _ && (List.take [47].length (List.drop 0 (L (wayOf ws))) == L slash)) = _
  rw [L_slash, e, el, e]
  simp
theorem good_len {x : Str} (h : Good x) : x.length ≠ 0 := fun e => h.1 (List.eq_nil_of_length_eq_zero (by rw [← len_L]; exact e))
theorem good_dot {x : Str} (h : Good x) : ¬ (x = Str.ofString ".") := fun e => h.2.2.2.1 (by rw [e]; decide +kernel)
theorem cpre_mem : ∀ {xs ys : List Str} {x : Str}, x ∈ cpre xs ys → x ∈ xs
  | [], ys, _, h => by cases ys <;> cases h
  | _ :: _, [], _, h => by cases h
  | a :: xs, b :: ys, x, h => by
    have h' : x ∈ (if a = b then a :: cpre xs ys else []) := h
    by_cases e : a = b
    · rw [if_pos e] at h'
      rcases List.mem_cons.mp h' with e | h'
      · exact e ▸ .head _
      · exact .tail _ (cpre_mem h')
    · rw [if_neg e] at h'; cases h'
theorem cpre_len : ∀ (xs ys : List Str), (cpre xs ys).length ≤ xs.length
  | [], ys => by cases ys <;> exact Nat.le_refl _
  | _ :: _, [] => Nat.zero_le _
  | a :: xs, b :: ys => by
    show (if a = b then a :: cpre xs ys else []).length ≤ _
    split
    · exact Nat.succ_le_succ (cpre_len xs ys)
    · exact Nat.zero_le _
theorem cpre_good (n q : Nat) : ∀ y ∈ cpre (wordsOf n) (wordsOf q), Good y := fun y hy => good_words n y (cpre_mem hy)
theorem cpre_12 (n q : Nat) : (cpre (wordsOf n) (wordsOf q)).length ≤ 12 := Nat.le_trans (cpre_len _ _) (words_len n)
theorem weight_cpre (n q : Nat) : ((cpre (wordsOf n) (wordsOf q)).map (·.length)).sum + (cpre (wordsOf n) (wordsOf q)).length ≤ 1048576 :=
  Nat.le_trans (Nat.add_le_add (Nat.le_trans (weight_of fun y hy => (cpre_good n q y hy).2.2.2.2) (Nat.mul_le_mul_left _ (cpre_12 n q))) (cpre_12 n q)) (by decide)
theorem cpre_fits (n q : Nat) : slash.length + (PySem.Txt.join slash (cpre (wordsOf n) (wordsOf q))).length ≤ sizeLine := by
  have h := (way_len (cpre_good n q) (cpre_12 n q)).1
  unfold wayOf at h
  rw [Str.length_append] at h
  rw [sizeLine_eq]
  exact Nat.le_trans h (by decide)
theorem take_next {lo hi : List Str} {i : Nat} {c : Str} (e : lo.take i = hi.take i) (h1 : lo[i]? = some c) (h4 : hi[i]? = some c) : lo.take (i + 1) = hi.take (i + 1) := by
  rw [List.take_add_one, List.take_add_one, e, h1, h4]
end Mine

namespace Mine
section
open LCg
noncomputable abbrev two (elt : Expr) (x₁ : Str) (p₁ : Pos) (i₁ : Expr) (x₂ : Str) (p₂ : Pos) (i₂ : Expr) (scope : Scope) (pos : Pos) : Expr := .ListComp elt [⟨.Name x₁ p₁, i₁, [], 0⟩, ⟨.Name x₂ p₂, i₂, [], 0⟩] scope pos
theorem turn_outer (elt : Expr) (x₁ : Str) (p₁ : Pos) (i₁ : Expr) (x₂ : Str) (p₂ : Pos) (i₂ : Expr) (scope : Scope) (pos : Pos) (it acc : Value) (env : Env) :
    compTurn (two elt x₁ p₁ i₁ x₂ p₂ i₂ scope pos) 0 it acc env = (do
      standAt i₁.pos
      match ← pyNext it with
      | none => pure (.done .next)
      | some v =>
        letOwnedTupleGo (.Name x₁ p₁) it v
        assign (.Name x₁ p₁) env v
        let x ← eval i₂ env
        standAt i₂.pos
        let x ← foldedSetIterable i₂ env x
        let _ ← runOwn (.compStart (two elt x₁ p₁ i₁ x₂ p₂ i₂ scope pos) 1 (← holding [x] (pyIter x)) acc env) env
        again (.compLoop (two elt x₁ p₁ i₁ x₂ p₂ i₂ scope pos) 0 it acc env)) := by rfl
theorem turn_inner (elt : Expr) (x₁ : Str) (p₁ : Pos) (i₁ : Expr) (x₂ : Str) (p₂ : Pos) (i₂ : Expr) (scope : Scope) (pos : Pos) (it acc : Value) (env : Env) :
    compTurn (two elt x₁ p₁ i₁ x₂ p₂ i₂ scope pos) 1 it acc env = (do
      standAt i₂.pos
      match ← pyNext it with
      | none => pure (.done .next)
      | some v =>
        letOwnedTupleGo (.Name x₂ p₂) it v
        assign (.Name x₂ p₂) env v
        (do let _ ← call (.builtin "list.append") [acc, ← eval elt env])
        again (.compLoop (two elt x₁ p₁ i₁ x₂ p₂ i₂ scope pos) 1 it acc env)) := by rfl
section
variable {prog : Program} {w : World} {A : Around} {E : Value → Shared → Prop} {s : Shared} {env : Env} {h₀ : Heap} {L : Addr} {m : Str → Option Value} {R : Result → Shared → Prop}
variable {elt i₁ i₂ : Expr} {x₁ x₂ : Str} {p₁ p₂ pos : Pos} {scope : Scope} {it acc : Value}
theorem start_two {s : Shared} (h0 : codeAny (model prog w) A (.compLoop (two elt x₁ p₁ i₁ x₂ p₂ i₂ scope pos) 1 it acc env) R s)
    (h : wpAny (model prog w) A (pyIter it) (fun it' s' => codeAny (model prog w) A (.compLoop (two elt x₁ p₁ i₁ x₂ p₂ i₂ scope pos) 1 it' acc env) R s') (notedBy (model prog w) A env fun x s' => R (.error x) s') s) :
    codeAny (model prog w) A (.compStart (two elt x₁ p₁ i₁ x₂ p₂ i₂ scope pos) 1 it acc env) R s := by
  refine codeAny_of_tree ?_
  show wpAny _ _ ((compStart (two elt x₁ p₁ i₁ x₂ p₂ i₂ scope pos) 1 it acc env).onRaise (fun x => do noteFrame x env; standAt theWindowsPlace)) _ _ s
  refine wpAny_notedAt ?_
  unfold compStart
  show wpAny _ _ (ask >>= _) _ _ s
  refine wpAny_bind (wpAny_askSetting (wpAny_ite ?_))
  split
  · first
      | exact wpAny_bind (wpAny_pure (wpAny_pure (And.intro rfl h0)))
      | exact wpAny_pure (And.intro rfl h0)
  · first
      | exact wpAny_bind (wpAny_rule (wpAny_bind (wpAny_standAt (wpAny_bind (wpAny_mono h (fun it' s' h' => wpAny_pure (And.intro rfl h')) fun _ _ x => x)))))
      | (refine wpAny_bind (wpAny_rule ?_); show wpAny _ _ (standAt i₂.pos >>= _) _ _ s; exact wpAny_bind (wpAny_standAt (wpAny_bind (wpAny_mono h (fun it' s' h' => wpAny_pure (And.intro rfl h')) fun _ _ x => x))))
theorem loop_inner (I : Nat → Shared → Prop)
    (turn : ∀ n s, I n s → wpAny (model prog w) A (pyNext it) (fun r s₁ => match r with
      | none => R (.ok .next) s₁
      | some v => wpAny (model prog w) A (assign (.Name x₂ p₂) env v) (fun _ s₂ =>
          wpAny (model prog w) A (eval elt env) (fun x s₄ =>
              wpAny (model prog w) A (call (.builtin "list.append") [acc, x]) (fun _ s₅ => ∃ m, m < n ∧ I m s₅) (fun _ _ => False) s₄) (fun _ _ => False) s₂) (fun _ _ => False) s₁) (fun _ _ => False) s)
    (n : Nat) (h : I n s) : codeAny (model prog w) A (.compLoop (two elt x₁ p₁ i₁ x₂ p₂ i₂ scope pos) 1 it acc env) R s := by
  refine codeAny_loop rfl I (fun n s hI => ?_) n h
  show wpAny _ A ((compTurn (two elt x₁ p₁ i₁ x₂ p₂ i₂ scope pos) 1 it acc env).onRaise (fun x => do noteFrame x env; theTreesLotGoes x)) _ _ s
  refine wpAny_noted ?_
  rw [turn_inner]
  refine wpAny_bind (wpAny_standAt (wpAny_bind (wpAny_mono (turn n s hI) (fun r s₁ h₁ => ?_) fun _ _ h' => h'.elim)))
  cases r with
  | none => exact wpAny_pure h₁
  | some v =>
    refine wpAny_bind (wpAny_of_eq (show letOwnedTupleGo (.Name x₂ p₂) it v = pure () from rfl) ?_)
    exact wpAny_bind (wpAny_mono h₁ (fun _ s₂ h₂ => wpAny_bind (wpAny_bind (wpAny_mono h₂ (fun x s₄ h₄ => wpAny_bind (wpAny_mono h₄ (fun _ s₅ h₅ => wpAny_pure (wpAny_pure ⟨rfl, h₅⟩)) fun _ _ h' => h'.elim)) fun _ _ h' => h'.elim))) fun _ _ h' => h'.elim)
theorem loop_outer (hs : ∀ x, foldedSetIterable i₂ env x = pure x) (I : Nat → Shared → Prop)
    (turn : ∀ n s, I n s → wpAny (model prog w) A (pyNext it) (fun r s₁ => match r with
      | none => R (.ok .next) s₁
      | some v => wpAny (model prog w) A (assign (.Name x₁ p₁) env v) (fun _ s₂ =>
          wpAny (model prog w) A (eval i₂ env) (fun x s₃ => wpAny (model prog w) A (pyIter x) (fun it' s₄ =>
              codeAny (model prog w) A (.compStart (two elt x₁ p₁ i₁ x₂ p₂ i₂ scope pos) 1 it' acc env) (fun r s₅ => (∃ f, r = .ok f) ∧ ∃ m, m < n ∧ I m s₅) s₄) (fun _ _ => False) s₃) (fun _ _ => False) s₂) (fun _ _ => False) s₁) (fun _ _ => False) s)
    (n : Nat) (h : I n s) : codeAny (model prog w) A (.compLoop (two elt x₁ p₁ i₁ x₂ p₂ i₂ scope pos) 0 it acc env) R s := by
  refine codeAny_loop rfl I (fun n s hI => ?_) n h
  show wpAny _ A ((compTurn (two elt x₁ p₁ i₁ x₂ p₂ i₂ scope pos) 0 it acc env).onRaise (fun x => do noteFrame x env; theTreesLotGoes x)) _ _ s
  refine wpAny_noted ?_
  rw [turn_outer]
  refine wpAny_bind (wpAny_standAt (wpAny_bind (wpAny_mono (turn n s hI) (fun r s₁ h₁ => ?_) fun _ _ h' => h'.elim)))
  cases r with
  | none => exact wpAny_pure h₁
  | some v =>
    refine wpAny_bind (wpAny_of_eq (show letOwnedTupleGo (.Name x₁ p₁) it v = pure () from rfl) ?_)
    refine wpAny_bind (wpAny_mono h₁ (fun _ s₂ h₂ => wpAny_bind (wpAny_mono h₂ (fun x s₃ h₃ => wpAny_bind (wpAny_standAt (wpAny_bind (wpAny_of_eq (hs x) (wpAny_bind (wpAny_holding (wpAny_mono h₃ (fun it' s₄ h₄ =>
      wpAny_bind (wpAny_runOwn (codeAny_mono h₄ fun r s₅ h₅ => ?_))) fun _ _ h' => h'.elim))))))) fun _ _ h' => h'.elim)) fun _ _ h' => h'.elim)
    obtain ⟨⟨f, rfl⟩, h₅⟩ := h₅
    exact wpAny_pure ⟨rfl, h₅⟩
end
section
variable {c : Cx} {env : Env} {m : Str → Option Value} {nw : List (Addr × Obj)} {s : Shared}
variable {elt i₁ i₂ : Expr} {x₁ x₂ : Str} {p₁ p₂ pos : Pos} {scope : Scope} {cl : List (Str × Addr)}
inductive I2Inv (c : Cx) (m : Str → Option Value) (nw : List (Addr × Obj)) (x₁ : Str) (v₁ : Value) (I : Addr) (oI : Obj) (C D I₂ : Addr) (n₂ : Nat) (St : Nat → Heap → Prop) (K : Nat → List Value → List (Addr × Obj) → Prop) (s : Shared) : Nat → Shared → Prop
  | mk {j h tk ys tl m₁} (hj : j ≤ n₂) (st : St j h) (F : Fr c.h₀ c.L h m) (eI : h.get? I = some oI) (hn : h.Ns C m₁) (hm : m₁ x₁ = some v₁) (eD : h.get? D = some (lst ys)) (N : News c.h₀ c.L h (tl ++ nw)) (off : ∀ p ∈ tl ++ nw, @Ne Nat p.1 I ∧ @Ne Nat p.1 I₂ ∧ @Ne Nat p.1 C ∧ @Ne Nat p.1 D) (hK : K j ys tl) : I2Inv c m nw x₁ v₁ I oI C D I₂ n₂ St K s (n₂ + 1 - j) { s with heap := h, toks := tk }
structure Trio (c : Cx) (I C D : Addr) : Prop where
  IL : @Ne Nat I c.L
  CL : @Ne Nat C c.L
  DL : @Ne Nat D c.L
  I0 : c.h₀.get? I = none
  C0 : c.h₀.get? C = none
  D0 : c.h₀.get? D = none
  IC : @Ne Nat I C
  ID : @Ne Nat I D
  CD : @Ne Nat C D
theorem inner_block {I C D I₂ : Addr} {oI oC : Obj} {ys : List Value} {tl : List (Addr × Obj)} {m₁ : Str → Option Value} {v₁ : Value} {n₂ : Nat} {P₂ : Nat → Value → Prop} {K : Nat → List Value → List (Addr × Obj) → Prop} {h : Heap} {tk : Nat} {R : Result → Shared → Prop}
    (hkind : scope.kind = .function) (hx₂ : scope.names.lookup x₂ = some .local) (hxx : x₁ ≠ x₂) (T : Trio c I C D) (B : Begun PR c.w c.A c.h₀ c.L m ((I, oI) :: (C, oC) :: (D, lst ys) :: (tl ++ nw)) n₂ P₂ (fun _ => True) I₂ { s with heap := h, toks := tk })
    (off : ∀ p ∈ tl ++ nw, @Ne Nat p.1 I ∧ @Ne Nat p.1 C ∧ @Ne Nat p.1 D) (hoC : NsObj oC m₁) (hm : m₁ x₁ = some v₁) (hK : K 0 ys tl) (hsz : ∀ j ys tl, j < n₂ → K j ys tl → ys.length ≤ sizeLine)
    (turn : ∀ j v₂ ys tl oI₂ oC m₂, j < n₂ → P₂ j v₂ → K j ys tl → NsObj oC m₂ → m₂ x₁ = some v₁ → m₂ x₂ = some v₂ → EvN c (compEnvC scope cl C env) m ((I₂, oI₂) :: (I, oI) :: (C, oC) :: (D, lst ys) :: (tl ++ nw)) elt (fun y tl' => K (j + 1) (ys ++ [y]) (tl' ++ tl)))
    (done : ∀ ys tl m₂ h tk, K n₂ ys tl → Fr c.h₀ c.L h m → h.get? I = some oI → h.Ns C m₂ → h.get? D = some (lst ys) → News c.h₀ c.L h (tl ++ nw) → (∀ p ∈ tl ++ nw, @Ne Nat p.1 I ∧ @Ne Nat p.1 C ∧ @Ne Nat p.1 D) → R (.ok .next) { s with heap := h, toks := tk }) :
    codeAny (model PR c.w) c.A (.compStart (two elt x₁ p₁ i₁ x₂ p₂ i₂ scope pos) 1 (.ref I₂) (.ref D) (compEnvC scope cl C env)) R { s with heap := h, toks := tk } := by
  obtain ⟨⟨fp, St, W, hIo, hSt, hst, _⟩, F, N, hL, h20, ab, _⟩ := B
  have ne2 : ∀ p ∈ (I, oI) :: (C, oC) :: (D, lst ys) :: (tl ++ nw), @Ne Nat p.1 I₂ := fun p hp => Nat.ne_of_lt (ab p hp)
  have I2 : @Ne Nat I I₂ := ne2 _ (.head _)
  have C2 : @Ne Nat C I₂ := ne2 _ (.tail _ (.head _))
  have D2 : @Ne Nat D I₂ := ne2 _ (.tail _ (.tail _ (.head _)))
  have kst : ∀ {j h h' o}, St j h → h.get? I₂ = some o → h'.get? I₂ = some o → (∀ b o, c.h₀.get? b = some o → h'.get? b = some o) → St j h' := fun st e e' k => hSt _ _ _ _ [] st e e' k (fun _ h => nomatch h) trivial
  have loop : codeAny (model PR c.w) c.A (.compLoop (two elt x₁ p₁ i₁ x₂ p₂ i₂ scope pos) 1 (.ref I₂) (.ref D) (compEnvC scope cl C env)) R { s with heap := h, toks := tk } := by
    refine loop_inner (I2Inv c m nw x₁ v₁ I oI C D I₂ n₂ St K s) (fun k s' hk => ?_) (n₂ + 1) (.mk (j := 0) (Nat.zero_le _) hst F (N _ (.head _)).1 (hoC.ns (N _ (.tail _ (.head _))).1) hm (N _ (.tail _ (.tail _ (.head _)))).1 (fun p hp => N p (.tail _ (.tail _ (.tail _ hp)))) (fun p hp => ⟨(off p hp).1, ne2 p (.tail _ (.tail _ (.tail _ hp))), (off p hp).2⟩) hK)
    clear hst F N ne2 ab off hoC hm hK
    cases hk with
    | @mk j h tk ys tl m₁ hj st F eI hn hm eD N off hK =>
    by_cases hlt : j < n₂
    · refine W.item j _ _ _ hlt st fun v h₂ tk₂ hP st₂ hk₂ => ?_
      have k₂ : ∀ b o, @Ne Nat b I₂ → h.get? b = some o → h₂.get? b = some o := fun b o hb e => hk₂ b o (fun hm => hb (List.mem_singleton.mp hm)) e
      refine wpAny_assign_Name (wpAny_storeName_local (lookup_relabel_local hx₂) (hn.at' fun o e => k₂ _ o C2 e) (fun h₃ hn₃ hs₃ => ?_) (by simp [compEnvC, relabel, hkind]))
      replace hs₃ : Heap.SameBut C h₂ h₃ := hs₃
      have k₃ : ∀ b o, @Ne Nat b I₂ → @Ne Nat b C → h.get? b = some o → h₃.get? b = some o := fun b o h1 h2 e => hs₃.extBut b o h2 (k₂ b o h1 e)
      obtain ⟨oI₂, e₂⟩ := hIo _ _ st₂
      have e₃ : h₃.get? I₂ = some oI₂ := hs₃.extBut _ _ (Ne.symm C2) e₂
      obtain ⟨oC, eC, hoC⟩ := ns_obj hn₃
      have F₃ : Fr c.h₀ c.L h₃ m := (fr_but F hk₂ hL h20).change hs₃ T.CL T.C0
      refine turn j v ys tl oI₂ oC _ hlt hP hK hoC ((if_neg hxx).trans hm) (if_pos rfl) s h₃ _ _ ⟨F₃, news_cons e₃ (Ne.symm hL) h20 (news_cons (k₃ _ _ I2 T.IC eI) T.IL T.I0 (news_cons eC T.CL T.C0 (news_cons (k₃ _ _ D2 (Ne.symm T.CD) eD) T.DL T.D0 fun p hp => ⟨k₃ _ _ (off p hp).2.1 (off p hp).2.2.1 (N p hp).1, (N p hp).2⟩)))⟩ (fun y tl' h₄ tk₄ C₄ o hK' => ?_) _
      have z : ∀ p ∈ (I₂, oI₂) :: (I, oI) :: (C, oC) :: (D, lst ys) :: (tl ++ nw), h₄.get? p.1 = some p.2 := fun p hp => (C₄.N p (List.mem_append_right _ hp)).1
      refine append_at (s := { s with heap := h₄, toks := tk₄ }) (hsz := by rw [List.size_toArray]; exact hsz j ys tl hlt hK) (z _ (.tail _ (.tail _ (.tail _ (.head _))))) fun h₅ hs₅ e₅ => ?_
      replace hs₅ : Heap.SameBut D h₄ h₅ := hs₅
      have F₅ : Fr c.h₀ c.L h₅ m := C₄.F.change hs₅ T.DL T.D0
      have off' : ∀ p ∈ (tl' ++ tl) ++ nw, @Ne Nat p.1 I ∧ @Ne Nat p.1 I₂ ∧ @Ne Nat p.1 C ∧ @Ne Nat p.1 D := fun p hp => by
        rw [List.append_assoc] at hp
        cases List.mem_append.mp hp with
        | inl hp => exact ⟨Ne.symm (o _ (.tail _ (.head _)) p hp), Ne.symm (o _ (.head _) p hp), Ne.symm (o _ (.tail _ (.tail _ (.head _))) p hp), Ne.symm (o _ (.tail _ (.tail _ (.tail _ (.head _)))) p hp)⟩
        | inr hp => exact off p hp
      exact ⟨_, Nat.sub_lt_sub_left (Nat.lt_succ_of_lt hlt) (Nat.lt_succ_self j), .mk hlt (kst (kst st₂ e₂ e₃ F₃.keep) e₃ (hs₅.extBut _ _ (Ne.symm D2) (z _ (.head _))) F₅.keep) F₅ (hs₅.extBut _ _ T.ID (z _ (.tail _ (.head _)))) (hoC.ns (hs₅.extBut _ _ T.CD (z _ (.tail _ (.tail _ (.head _)))))) ((if_neg hxx).trans hm) (e₅.trans (congrArg some (lst_snoc ys y))) (fun p hp => by
        have q := off' p hp
        rw [List.append_assoc] at hp
        have y := C₄.N p ((List.mem_append.mp hp).elim (fun hp => List.mem_append_left _ hp) fun hp => List.mem_append_right _ (.tail _ (.tail _ (.tail _ (.tail _ hp)))))
        exact ⟨hs₅.extBut _ _ q.2.2.2 y.1, y.2⟩) off' hK'⟩
    · cases Nat.le_antisymm hj (Nat.not_lt.mp hlt)
      refine W.done _ _ _ st fun h₂ tk₂ hk₂ => ?_
      have k₂ : ∀ b o, @Ne Nat b I₂ → h.get? b = some o → h₂.get? b = some o := fun b o hb e => hk₂ b o (fun hm => hb (List.mem_singleton.mp hm)) e
      exact done ys tl m₁ h₂ tk₂ hK (fr_but F hk₂ hL h20) (k₂ _ _ I2 eI) (hn.at' fun o e => k₂ _ o C2 e) (k₂ _ _ D2 eD) (news_but N hk₂ fun p hp => (off p hp).2.1) fun p hp => ⟨(off p hp).1, (off p hp).2.2⟩
  exact start_two loop (W.self 0 _ _ _ hst loop)
theorem off1_all {D : Addr} : ∀ {l : List (Addr × Obj)}, (∀ p ∈ l, @Ne Nat p.1 D) → Off1 D l
  | [], _ => trivial
  | _ :: _, h => ⟨h _ (.head _), off1_all fun p hp => h p (.tail _ hp)⟩
inductive O2Inv (c : Cx) (m : Str → Option Value) (nw : List (Addr × Obj)) (I C D : Addr) (n : Nat) (St : Nat → Heap → Prop) (J : Nat → List Value → List (Addr × Obj) → Prop) (s : Shared) : Nat → Shared → Prop
  | mk {i h tk ys tl m₁} (hi : i ≤ n) (st : St i h) (F : Fr c.h₀ c.L h m) (hn : h.Ns C m₁) (eD : h.get? D = some (lst ys)) (N : News c.h₀ c.L h (tl ++ nw)) (off : ∀ p ∈ tl ++ nw, @Ne Nat p.1 I ∧ @Ne Nat p.1 C ∧ @Ne Nat p.1 D) (hJ : J i ys tl) : O2Inv c m nw I C D n St J s (n + 1 - i) { s with heap := h, toks := tk }
theorem two_R {n : Nat} {P : Nat → Value → Prop} {n₂ : Nat → Nat} {P₂ : Nat → Nat → Value → Prop} {K : Nat → Nat → List Value → List (Addr × Obj) → Prop} {I : Addr} {h : Heap} {tk : Nat} {Fin : List Value → List (Addr × Obj) → Prop}
    (hcell : ∀ y ∈ scope.names, y.2 ≠ .cell) (hkind : scope.kind = .function) (hx₁ : scope.names.lookup x₁ = some .local) (hx₂ : scope.names.lookup x₂ = some .local) (hxx : x₁ ≠ x₂) (hs : ∀ e x, foldedSetIterable i₂ e x = pure x)
    (B : Begun PR c.w c.A c.h₀ c.L m nw n P (fun _ => True) I { s with heap := h, toks := tk }) (h0 : K 0 0 [] []) (next : ∀ i ys tl, K i (n₂ i) ys tl → K (i + 1) 0 ys tl) (hsz : ∀ i j ys tl, i < n → j < n₂ i → K i j ys tl → ys.length ≤ sizeLine)
    (src : ∀ i v ys tl I oI C oC D m₂, i < n → P i v → NsObj oC m₂ → m₂ x₁ = some v → Src c (compEnvC scope cl C env) m ((I, oI) :: (C, oC) :: (D, lst ys) :: (tl ++ nw)) i₂ (n₂ i) (P₂ i) (fun _ => True))
    (turn : ∀ i v₁ j v₂ ys tl I₂ oI₂ I oI C oC D m₂, i < n → P i v₁ → j < n₂ i → P₂ i j v₂ → K i j ys tl → NsObj oC m₂ → m₂ x₁ = some v₁ → m₂ x₂ = some v₂ → EvN c (compEnvC scope cl C env) m ((I₂, oI₂) :: (I, oI) :: (C, oC) :: (D, lst ys) :: (tl ++ nw)) elt (fun y tl' => K i (j + 1) (ys ++ [y]) (tl' ++ tl)))
    (fin : ∀ ys tl, K n 0 ys tl → Fin ys (tl ++ nw)) : CompR PR c.w c.A c.h₀ c.L m env (two elt x₁ p₁ i₁ x₂ p₂ i₂ scope pos) scope cl Fin (.ref I) { s with heap := h, toks := tk } := by
  intro E RR hRR
  obtain ⟨⟨fp, St, W, hIo, hSt, hst, hfp⟩, F, N, hL, hI0, ab, _⟩ := B
  dsimp only at hst hfp F N
  refine wpAny_newObj_type (wpAny_newFunctionEnv hcell (by intro y hy; simp at hy) (fun h₁ hns₁ hsb₁ => ?_) hkind)
  dsimp only at hns₁ hsb₁ ⊢
  have hC : (h.push (lst [])).objs.size = h.objs.size + 1 := Heap.size_push ..
  rw [show (h.push { cls := .type "list", data := .seq ([] : List Value).toArray }).objs.size = h.objs.size + 1 from hC] at hns₁ hsb₁ ⊢
  have up : ∀ b o, h.get? b = some o → h₁.get? b = some o := fun b o e => hsb₁.extBut b o (Nat.ne_of_lt (Nat.lt_succ_of_lt (Heap.lt_size e))) (Heap.get?_push_of_some _ (Heap.get?_push_of_some _ e))
  have eD : h₁.get? h.objs.size = some (lst []) := hsb₁.extBut _ _ (Nat.ne_of_lt (Nat.lt_succ_self _)) (Heap.get?_push_of_some _ (Heap.get?_push_size _ rfl))
  have fresh : ∀ a, h.objs.size ≤ a → c.h₀.get? a = none := fun a ha => Heap.get?_none_of_le (Nat.le_trans F.above (Nat.le_trans (Nat.le_of_lt F.ns.lt) ha))
  have hIl : I < h.objs.size := hfp I (W.sub I (List.mem_singleton.mpr rfl))
  have T : Trio c I (h.objs.size + 1) h.objs.size := ⟨Ne.symm hL, Nat.ne_of_gt (Nat.lt_succ_of_lt F.ns.lt), Nat.ne_of_gt F.ns.lt, hI0, fresh _ (Nat.le_succ _), fresh _ (Nat.le_refl _), Nat.ne_of_lt (Nat.lt_succ_of_lt hIl), Nat.ne_of_lt hIl, Nat.succ_ne_self _⟩
  have kst : ∀ {j h h' o}, St j h → h.get? I = some o → h'.get? I = some o → (∀ b o, c.h₀.get? b = some o → h'.get? b = some o) → St j h' := fun st e e' k => hSt _ _ _ _ [] st e e' k (fun _ h => nomatch h) trivial
  have st₁ : St 0 h₁ := W.frame _ _ _ hst fun b _ o e => up b o e
  have o₁ : ∀ p ∈ [] ++ nw, @Ne Nat p.1 I ∧ @Ne Nat p.1 (h.objs.size + 1) ∧ @Ne Nat p.1 h.objs.size := fun p hp => ⟨Nat.ne_of_lt (ab p hp), Nat.ne_of_lt (Nat.lt_succ_of_lt (Heap.lt_size (N p hp).1)), Nat.ne_of_lt (Heap.lt_size (N p hp).1)⟩
  have F₁ := F.keeps up
  have N₁ : News c.h₀ c.L h₁ ([] ++ nw) := fun p hp => ⟨up _ _ (N p hp).1, (N p hp).2⟩
  generalize h.objs.size = D at T eD o₁ hns₁ ⊢
  clear hC hsb₁ up fresh hIl F N hst hfp ab
  have loop : codeAny (model PR c.w) c.A (.compLoop (two elt x₁ p₁ i₁ x₂ p₂ i₂ scope pos) 0 (.ref I) (.ref D) (compEnvC scope cl (D + 1) env)) (RR (.ref D) (D + 1)) { s with heap := h₁, toks := tk + ([] : List (Str × Value)).length } := by
    refine loop_outer (hs _) (O2Inv c m nw I (D + 1) D n St (fun i => K i 0) s) (fun k s' hk => ?_) (n + 1) (.mk (i := 0) (Nat.zero_le _) st₁ F₁ hns₁ eD N₁ o₁ h0)
    clear st₁ F₁ N₁ o₁ eD hns₁
    generalize D + 1 = C at T ⊢ hk
    cases hk with
    | @mk i h tk ys tl m₁ hi st F hn eD N off hK =>
    by_cases hlt : i < n
    · refine W.item i _ _ _ hlt st fun v h₂ tk₂ hP st₂ hk₂ => ?_
      have k₂ : ∀ b o, @Ne Nat b I → h.get? b = some o → h₂.get? b = some o := fun b o hb e => hk₂ b o (fun hm => hb (List.mem_singleton.mp hm)) e
      refine wpAny_assign_Name (wpAny_storeName_local (lookup_relabel_local hx₁) (hn.at' fun o e => k₂ _ o (Ne.symm T.IC) e) (fun h₃ hn₃ hs₃ => ?_) (by simp [compEnvC, relabel, hkind]))
      replace hs₃ : Heap.SameBut C h₂ h₃ := hs₃
      have k₃ : ∀ b o, @Ne Nat b I → @Ne Nat b C → h.get? b = some o → h₃.get? b = some o := fun b o h1 h2 e => hs₃.extBut b o h2 (k₂ b o h1 e)
      obtain ⟨oI, e₂⟩ := hIo _ _ st₂
      have e₃ : h₃.get? I = some oI := hs₃.extBut _ _ T.IC e₂
      obtain ⟨oC, eC, hoC⟩ := ns_obj hn₃
      have F₃ : Fr c.h₀ c.L h₃ m := (fr_but F hk₂ hL hI0).change hs₃ T.CL T.C0
      have st₃ := kst st₂ e₂ e₃ F₃.keep
      refine src i v ys tl I oI C oC D _ hlt hP hoC (if_pos rfl) s h₃ _ _ ⟨F₃, news_cons e₃ T.IL T.I0 (news_cons eC T.CL T.C0 (news_cons (k₃ _ _ (Ne.symm T.ID) (Ne.symm T.CD) eD) T.DL T.D0 fun p hp => ⟨k₃ _ _ (off p hp).1 (off p hp).2.1 (N p hp).1, (N p hp).2⟩))⟩ (fun I₂ h₄ tk₄ B => ?_) _
      exact inner_block hkind hx₂ hxx T B off hoC (if_pos rfl) hK (fun j ys tl => hsz i j ys tl hlt) (fun j v₂ ys tl oI₂ oC m₂ hj hv hK hC e1 e2 => turn i v j v₂ ys tl I₂ oI₂ I oI C oC D m₂ hlt hP hj hv hK hC e1 e2) fun ys tl m₂ h tk hK F eI hn eD N off => ⟨⟨_, rfl⟩, _, Nat.sub_lt_sub_left (Nat.lt_succ_of_lt hlt) (Nat.lt_succ_self i), .mk hlt (kst st₃ e₃ eI F.keep) F hn eD N off (next i ys tl hK)⟩
    · cases Nat.le_antisymm hi (Nat.not_lt.mp hlt)
      refine W.done _ _ _ st fun h₂ tk₂ hk₂ => ?_
      have k₂ : ∀ b o, @Ne Nat b I → h.get? b = some o → h₂.get? b = some o := fun b o hb e => hk₂ b o (fun hm => hb (List.mem_singleton.mp hm)) e
      exact hRR D C h₂ tk₂ m₁ ys _ (fr_but F hk₂ hL hI0) (news_cons (k₂ _ _ (Ne.symm T.ID) eD) T.DL T.D0 (news_but N hk₂ fun p hp => (off p hp).1)) (off1_all fun p hp => (off p hp).2.2) (hn.at' fun o e => k₂ _ o (Ne.symm T.IC) e) T.C0 T.D0 T.CL T.DL T.CD (fun p hp => (off p hp).2.1) (fin ys tl hK)
  exact codeAny_compStart_list loop (W.self 0 _ _ _ st₁ loop)
end
end
end Mine

namespace Mine
section
open LCg
section
variable {c : Cx} {env : Env} {m : Str → Option Value} {nw : List (Addr × Obj)} {pos tp px px₂ : Pos} {kk k : Nat} {a elt : Expr} {x x₂ : Str} {scope : Scope} {cl : List (Str × Addr)}
theorem rest_PK {s : Shared} {S : List (Addr × Obj) → Prop} {P : Nat → Value → Prop} {Fin : List Value → List (Addr × Obj) → Prop} {n : Nat} {K : Nat → List Value → Prop} {T : Nat → Value → Value → Prop} (hS : S nw)
    (item : ∀ i v, P i v → ∃ t v₁ v₂, v = .ref t ∧ (t, tupObj [v₁, v₂]) ∈ nw ∧ T i v₁ v₂)
    (turn : ∀ i v₁ v₂ ys I oI C oC D m₂, i < n → T i v₁ v₂ → K i ys → NsObj oC m₂ → m₂ x = some v₁ → m₂ x₂ = some v₂ → Ev c (compEnvC scope cl C env) m ((I, oI) :: (C, oC) :: (D, lst ys) :: nw) elt (fun y => K (i + 1) (ys ++ [y])))
    (fin : ∀ ys, K n ys → Fin ys nw) : ∀ (j i : Nat) (ys : List Value), i + j = n → K i ys → LCp.CompRestP PR c.w c.A c.h₀ c.L m env elt x x₂ scope cl s S P Fin j i ys nw
  | 0, i, ys, hi, hy => LCp.CompRestP.zero (fin ys ((show i = n from hi) ▸ hy))
  | j + 1, i, ys, hi, hy => LCp.CompRestP.succ fun v hv =>
    have ⟨t, v₁, v₂, e, hm, hT⟩ := item i v hv
    ⟨t, _, v₁, v₂, _, e, hm, rfl, rfl, fun I oI C oC D m₂ h tk E' hC h1 h2 F N off ne => turn i v₁ v₂ ys I oI C oC D m₂ (hi ▸ Nat.lt_add_of_pos_right (Nat.succ_pos j)) hT hy hC h1 h2 s h tk _ ⟨F, N⟩ (fun y h' tk' C' hK => ⟨h', tk', nw, rfl, C'.F, C'.N, off, hS, rest_PK hS item turn fin j (i + 1) _ ((Nat.succ_add_eq_add_succ i j).trans hi) hK⟩) E'⟩
theorem EvN.compP {la : Addr} {vs : List Value} {n : Nat} {K : Nat → List Value → Prop} {T : Nat → Value → Value → Prop} (O : Ok c k) (hl : LAt vs nw la) (hn : vs.length = n) (hz : n ≤ sizeLine) (ha : Ev c env m nw a (· = .ref la)) (h0 : K 0 []) (item : ∀ i v, vs[i]? = some v → ∃ t v₁ v₂, v = .ref t ∧ (t, tupObj [v₁, v₂]) ∈ nw ∧ T i v₁ v₂)
    (turn : ∀ i v₁ v₂ ys I oI C oC D m₂, i < n → T i v₁ v₂ → K i ys → NsObj oC m₂ → m₂ x = some v₁ → m₂ x₂ = some v₂ → Ev c (compEnvC scope cl C env) m ((I, oI) :: (C, oC) :: (D, lst ys) :: nw) elt (fun y => K (i + 1) (ys ++ [y])))
    (hclos : closureFor scope env = pure cl) (hcell : ∀ y ∈ scope.names, y.2 ≠ .cell) (hkind : scope.kind = .function) (hx : scope.names.lookup x = some .local) (hx₂ : scope.names.lookup x₂ = some .local) (hxx : x ≠ x₂)
    (hnames : ∀ y ∈ scope.names, y.2 = .local → scope.names.lookup y.1 = some .local) (hs : ∀ x, foldedSetIterable a env x = pure x) :
    EvN c env m nw (.ListComp elt [⟨.Tuple [.Name x px, .Name x₂ px₂] kk tp, a, [], 0⟩] scope pos) (NewL (K n)) := fun s h tk Q C kq E => by
  subst hn
  obtain ⟨nn, hm⟩ := hl
  exact LCp.ListComp_P (s := { s with heap := h, toks := tk }) C.F hclos hcell hkind hnames hx hx₂ hxx (ha s h tk _ C (fun v h1 tk1 C1 e => by
    subst e
    refine LCp.SrcLP.ledger (s₁ := { s with heap := h1, toks := tk1 }) O.hh C1.F C1.N hm (by rw [List.size_toArray]; exact hz) fun g => rest_PK (Or.inr ⟨_, hm, rfl, _, rfl⟩) (fun i v hv => item i v (by simpa using hv)) turn (fun ys hK D h2 tk2 F2 N2 o1 => ?_) _ 0 [] (Nat.zero_add _) h0
    exact kq (.ref D) [_] h2 tk2 ⟨F2, N2⟩ (one_ord (off1_mem o1)) ⟨D, ys, _, rfl, rfl, hK⟩) E) hs
theorem go_two {i₁ i₂ : Expr} {x₁ y : Str} {p₁ p₂ py spos : Pos} {s : Shared} {h : Heap} {tk : Nat} {Q : Flow → Shared → Prop} {rest : List Stmt} {n : Nat} {P : Nat → Value → Prop} {n₂ : Nat → Nat} {P₂ : Nat → Nat → Value → Prop} {K : Nat → Nat → List Value → List (Addr × Obj) → Prop}
    (C : Cur c m nw h) (d : Src c env m nw i₁ n P (fun _ => True)) (h0 : K 0 0 [] []) (next : ∀ i ys tl, K i (n₂ i) ys tl → K (i + 1) 0 ys tl) (hsz : ∀ i j ys tl, i < n → j < n₂ i → K i j ys tl → ys.length ≤ sizeLine)
    (src : ∀ i v ys tl I oI C oC D m₂, i < n → P i v → NsObj oC m₂ → m₂ x₁ = some v → Src c (compEnvC scope cl C env) m ((I, oI) :: (C, oC) :: (D, lst ys) :: (tl ++ nw)) i₂ (n₂ i) (P₂ i) (fun _ => True))
    (turn : ∀ i v₁ j v₂ ys tl I₂ oI₂ I oI C oC D m₂, i < n → P i v₁ → j < n₂ i → P₂ i j v₂ → K i j ys tl → NsObj oC m₂ → m₂ x₁ = some v₁ → m₂ x₂ = some v₂ → EvN c (compEnvC scope cl C env) m ((I₂, oI₂) :: (I, oI) :: (C, oC) :: (D, lst ys) :: (tl ++ nw)) elt (fun y tl' => K i (j + 1) (ys ++ [y]) (tl' ++ tl)))
    (kq : ∀ D ys tl m' h' tk', K n 0 ys tl → Cur c m' ((D, lst ys) :: (tl ++ nw)) h' → m' y = some (.ref D) → (∀ z u, z ≠ y → m z = some u → m' z = some u) → Go c env rest Q s h' tk') (hclos : closureFor scope env = pure cl)
    (hcell : ∀ y ∈ scope.names, y.2 ≠ .cell) (hkind : scope.kind = .function) (hx₁ : scope.names.lookup x₁ = some .local) (hx₂ : scope.names.lookup x₂ = some .local) (hxx : x₁ ≠ x₂)
    (hnames : ∀ y ∈ scope.names, y.2 = .local → scope.names.lookup y.1 = some .local) (hs : ∀ x, foldedSetIterable i₁ env x = pure x) (hs₂ : ∀ e x, foldedSetIterable i₂ e x = pure x)
    (hL : env.locals = c.L) (hl : env.kindOf y = some .local) (hp : (env.scope.kind == .class || (env.scope.kind == .module && env.locals != env.globals)) = false)
    (hsw : swapsWith (two elt x₁ p₁ i₁ x₂ p₂ i₂ scope pos) (some (.Name y py)) spos.line env = pure true) : Go c env (.Assign [.Name y py] (two elt x₁ p₁ i₁ x₂ p₂ i₂ scope pos) spos :: rest) Q s h tk :=
  go_seq fun E => by
    cases c with | mk w A h₀ L =>
    cases hL
    exact comp_A hsw hclos hkind hnames hl hp (d s h tk (fun it s₂ => CompR PR w A h₀ env.locals m env (two elt x₁ p₁ i₁ x₂ p₂ i₂ scope pos) scope cl (FinA h₀ env.locals m s₂ y (fun f s' => match f with | .next => wpAny (model PR w) A (execs rest env) Q E s' | f => Q f s')) it s₂) C (fun I h' tk' B => two_R (c := ⟨w, A, h₀, env.locals⟩) hcell hkind hx₁ hx₂ hxx hs₂ B h0 next hsz src turn fun ys tl hK D h2 tk2 F2 N2 _ => kq D ys tl _ h2 tk2 hK ⟨F2, N2⟩ (if_pos rfl) (fun z u hz e => (if_neg hz).trans e) E) E) hs
end
end
end Mine

namespace Mine
theorem range_all : ∀ n : Nat, n ≤ 8 → Builtin.Range.small 0 (n : Int) 1 = true ∧ Builtin.Range.rangeSize 0 (n : Int) 1 = (n : Int) := by decide +kernel
theorem ints_item {vs : List Value} {ns : List Int} (h : IntsAre vs ns) {i : Nat} {v : Value} (e : vs[i]? = some v) : ∃ k, ns[i]? = some k ∧ IsI k v := by
  have hi : i < ns.length := by rw [← h.length]; exact (List.getElem?_eq_some_iff.mp e).1
  obtain ⟨t, e'⟩ := h.get i _ (List.getElem?_eq_getElem hi)
  rw [e] at e'
  exact ⟨_, List.getElem?_eq_getElem hi, t, Option.some.inj e'⟩
theorem map_at {α β : Type} {f : α → β} {B : List α} {i : Nat} {y : β} (h : (B.map f)[i]? = some y) : ∃ k, B[i]? = some k ∧ y = f k := by
  rw [List.getElem?_map] at h
  cases e : B[i]? with
  | none => rw [e] at h; cases h
  | some k => rw [e] at h; exact ⟨k, rfl, (Option.some.inj h).symm⟩
noncomputable abbrev NatsAre (vs : List Value) (ns : List Nat) : Prop := IntsAre vs (ns.map Nat.cast)
theorem nats_item {vs : List Value} {ns : List Nat} (h : NatsAre vs ns) {i : Nat} {v : Value} (e : vs[i]? = some v) : ∃ k, ns[i]? = some k ∧ IsI (k : Int) v := by
  obtain ⟨k, hk, hv⟩ := ints_item h e
  obtain ⟨n, hn, e⟩ := map_at hk
  exact ⟨n, hn, e ▸ hv⟩
theorem strs_snoc {vs : List Value} {ts : List Str} {x : Str} {v : Value} (h : StrsAre vs ts) : IsS x v → StrsAre (vs ++ [v]) (ts ++ [x]) := fun q1z => by obtain ⟨t, e⟩ := q1z; exact e ▸ StrsAre.append' h (.cons _ t .nil)
noncomputable def drawnOf (ns : List Int) : List Int := (ns.take 6).map (fun x => Int.fmod x 4096) ++ [1029, 1053]
theorem drawn_len (ns : List Int) : (drawnOf ns).length ≤ 8 := by
  unfold drawnOf
  rw [List.length_append, List.length_map, List.length_take]
  exact Nat.add_le_add_right (Nat.min_le_left _ _) 2
theorem nats_of : ∀ (ns : List Int), (∀ x ∈ ns, 0 ≤ x ∧ x < 4096) → ∃ S : List Nat, ns = S.map Nat.cast ∧ ∀ x ∈ S, x < 4096
  | [], _ => ⟨[], rfl, fun _ h => nomatch h⟩
  | x :: r, h => by
    obtain ⟨S, e, hS⟩ := nats_of r fun y hy => h y (.tail _ hy)
    obtain ⟨h0, h1⟩ := h x (.head _)
    obtain ⟨n, e'⟩ := Int.eq_ofNat_of_zero_le h0
    subst e'
    exact ⟨n :: S, by rw [e]; rfl, fun y hy => by
      cases hy with
      | head => exact Int.ofNat_lt.mp h1
      | tail _ hy => exact hS y hy⟩
theorem fmod_two (k : Nat) : Int.fmod (k : Int) 2 = ((k % 2 : Nat) : Int) := by
  rw [Int.fmod_eq_emod_of_nonneg _ (by decide)]
  rfl
theorem sets_facts (ns : List Int) : ∃ S : List Nat, drawnOf ns ++ (List.replicate ((drawnOf ns).length % 2) [(8 : Int)]).flatten = S.map Nat.cast ∧ S.length ≤ 8 ∧ S.length % 2 = 0 ∧ ∀ x ∈ S, x < 4096 := by
  have h1 := drawn_len ns
  have hb : ∀ x ∈ drawnOf ns, 0 ≤ x ∧ x < 4096 := fun x hx => by
    cases List.mem_append.mp hx with
    | inl hx =>
      obtain ⟨y, _, e⟩ := List.mem_map.mp hx
      exact e ▸ ⟨Int.fmod_nonneg_of_pos _ (by decide), Int.fmod_lt_of_pos _ (by decide)⟩
    | inr hx => exact (show ∀ x ∈ [(1029 : Int), 1053], 0 ≤ x ∧ x < 4096 by decide) x hx
  generalize drawnOf ns = d at h1 hb
  cases Nat.mod_two_eq_zero_or_one d.length with
  | inl e =>
    rw [e]
    obtain ⟨S, eS, hS⟩ := nats_of d hb
    have hl : d.length = S.length := (congrArg List.length eS).trans (List.length_map ..)
    exact ⟨S, (List.append_nil d).trans eS, hl ▸ h1, hl ▸ e, hS⟩
  | inr e =>
    rw [e]
    obtain ⟨S, eS, hS⟩ := nats_of (d ++ [8]) fun x hx => (List.mem_append.mp hx).elim (hb x) fun hx => List.mem_singleton.mp hx ▸ (by decide)
    have hl : d.length + 1 = S.length := List.length_append.symm.trans ((congrArg List.length eS).trans (List.length_map ..))
    exact ⟨S, eS, hl ▸ Nat.lt_of_le_of_ne h1 (fun q => by rw [q] at e; cases e), by rw [← hl, Nat.add_mod, e], hS⟩
theorem sets_in {S : List Nat} (h : ∀ x ∈ S, x < 4096) : ∀ x ∈ S.map (Nat.cast : Nat → Int), 0 ≤ x ∧ x < 4096 := fun x hx => by
  obtain ⟨n, hn, e⟩ := List.mem_map.mp hx
  exact e ▸ ⟨Int.natCast_nonneg n, Int.ofNat_lt.mpr (h n hn)⟩
theorem codes {S : List Nat} (h1 : S.length ≤ 8) (h2 : S.length % 2 = 0) (h3 : ∀ x ∈ S, x < 4096) : ∃ os, octetsTo (S.map Nat.cast) ((S.map (Nat.cast : Nat → Int)).length / 2) = os ∧ Tells os (S.map Nat.cast) ∧ Tells (os.map fun x => 255 - x) ((S.map Nat.cast).map fun n => 4095 - n) ∧ os.length % 3 = 0 ∧ os.length ≤ 12 := by
  obtain ⟨t1, t2⟩ := tells (S.map Nat.cast) (by rw [List.length_map]; exact h2) (sets_in h3)
  have l := octetsTo_length (S.map Nat.cast) ((S.map (Nat.cast : Nat → Int)).length / 2)
  refine ⟨_, rfl, t1, t2, l ▸ Nat.mul_mod_right .., l ▸ ?_⟩
  rw [List.length_map]
  exact Nat.mul_le_mul_left 3 (Nat.div_le_div_right h1)
noncomputable def bothOf (S : List Nat) : List Nat := S ++ S.map fun n => 4095 - n
theorem both_cast {S : List Nat} (h : ∀ x ∈ S, x < 4096) : S.map (Nat.cast : Nat → Int) ++ (S.map (Nat.cast : Nat → Int)).map (fun n => 4095 - n) = (bothOf S).map Nat.cast := by
  unfold bothOf
  rw [List.map_append, List.map_map, List.map_map]
  exact congrArg _ (List.map_congr_left fun x hx => (Int.ofNat_sub (Nat.le_of_lt_succ (h x hx))).symm)
theorem both_lt {S : List Nat} (h : ∀ x ∈ S, x < 4096) : ∀ x ∈ bothOf S, x < 4096 := fun x hx => by
  cases List.mem_append.mp hx with
  | inl hx => exact h x hx
  | inr hx =>
    obtain ⟨y, _, e⟩ := List.mem_map.mp hx
    exact e ▸ Nat.lt_succ_of_le (Nat.sub_le _ _)
theorem both_len (S : List Nat) : (bothOf S).length = 2 * S.length := by
  unfold bothOf
  rw [List.length_append, List.length_map, Nat.two_mul]
noncomputable def wayN (n : Nat) : Str := wayOf (wordsOf n)
theorem both_at {S : List Nat} {i x : Nat} (e : S[i]? = some x) : ((bothOf S).map wayN)[i]? = some (wayN x) ∧ ((bothOf S).map wayN)[S.length + i]? = some (wayN (4095 - x)) := by
  have hi : i < S.length := (List.getElem?_eq_some_iff.mp e).1
  rw [List.getElem?_map, List.getElem?_map]
  unfold bothOf
  rw [List.getElem?_append_left hi, e, List.getElem?_append_right (Nat.le_add_right _ _), Nat.add_sub_cancel_left, List.getElem?_map, e]
  exact ⟨rfl, rfl⟩
theorem ok_of {x : Str} (h : ∀ c ∈ L x, c < 0x110000) : PyData.strOk x = true := by
  unfold PyData.strOk
  rw [Array.all_eq_true_iff_forall_mem]
  exact fun c hc => decide_eq_true (h c (Array.mem_toList_iff.mpr hc))
theorem cps_slash : ∀ c ∈ L slash, c < 0x110000 := by decide +kernel
theorem cps_join : ∀ {ws : List Str}, (∀ w ∈ ws, ∀ c ∈ L w, c < 0x110000) → ∀ c ∈ L (Str.join slash ws), c < 0x110000
  | [], _, c, hc => nomatch hc
  | [w], h, c, hc => h w (.head _) c hc
  | w :: v :: r, h, c, hc => by
    rw [L_join_cons] at hc
    cases List.mem_append.mp hc with
    | inl hc => exact h w (.head _) c hc
    | inr hc => cases List.mem_append.mp hc with
      | inl hc => exact cps_slash c hc
      | inr hc => exact cps_join (fun w hw => h w (.tail _ hw)) c hc
theorem cps_words (n : Nat) : ∀ w ∈ wordsOf n, ∀ c ∈ L w, c < 0x110000 := fun w hw => by
  unfold wordsOf at hw
  split at hw
  · cases hw with
    | head => decide +kernel
    | tail _ h => cases h
  · obtain ⟨k, hk, e⟩ := List.mem_map.mp hw
    subst e
    exact (show ∀ k, k < 12 → ∀ c ∈ L (nameOf k), c < 0x110000 by decide +kernel) k (List.mem_range.mp (List.mem_filter.mp hk).1)
theorem ok_way {ws : List Str} (h : ∀ w ∈ ws, ∀ c ∈ L w, c < 0x110000) : PyData.strOk (wayOf ws) = true := by
  refine ok_of fun c hc => ?_
  rw [wayOf_eq, L_append] at hc
  exact (List.mem_append.mp hc).elim (cps_slash c) (cps_join h c)
theorem kok_strs {ts : List Str} (h : ∀ x ∈ ts, PyData.strOk x = true) : ∀ d ∈ ts.map Dat.str, kqdOk 8 d = true := fun d hd => by
  obtain ⟨x, hx, e⟩ := List.mem_map.mp hd
  exact e ▸ h x hx
theorem ok_wayN (n : Nat) : PyData.strOk (wayN n) = true := ok_way (cps_words n)
theorem ok_slash : PyData.strOk slash = true := ok_of cps_slash
theorem kok_ints (ns : List Int) : ∀ d ∈ ns.map Dat.int, kqdOk 8 d = true := fun d hd => by
  obtain ⟨x, _, e⟩ := List.mem_map.mp hd
  exact e ▸ rfl
noncomputable def partsN (n : Nat) : Dat := .tuple [.str (wayOf (wordsOf n).dropLast), .str ((wordsOf n).getLastD Str.empty)]
theorem words_last {n : Nat} (h : n < 4096) : wordsOf n = (wordsOf n).dropLast ++ [(wordsOf n).getLastD Str.empty] := by
  have hne := words_ne h
  rw [List.getLastD_eq_getLast?, List.getLast?_eq_some_getLast hne]
  exact (List.dropLast_concat_getLast hne).symm
theorem split_parts {n : Nat} (h : n < 4096) : splitHead (wayN n) = wayOf (wordsOf n).dropLast ∧ cutTail (wayN n) = (wordsOf n).getLastD Str.empty := by
  have e := words_last h
  have := split_way (ws := (wordsOf n).dropLast) (w := (wordsOf n).getLastD Str.empty) (fun v hv => good_words n v (e ▸ hv))
  rw [← e] at this
  exact this
theorem kok_parts {B : List Nat} (hb : ∀ x ∈ B, x < 4096) : ∀ d ∈ B.map partsN, kqdOk 8 d = true := fun d hd => by
  obtain ⟨n, hn, e⟩ := List.mem_map.mp hd
  subst e
  have hc := cps_words n
  have h1 : PyData.strOk (wayOf (wordsOf n).dropLast) = true := ok_way fun w hw => hc w (List.dropLast_subset _ hw)
  have h2 : PyData.strOk ((wordsOf n).getLastD Str.empty) = true := ok_of (hc _ (by
    have := List.mem_append_right (wordsOf n).dropLast (List.mem_singleton.mpr (rfl : (wordsOf n).getLastD Str.empty = (wordsOf n).getLastD Str.empty))
    rw [← words_last (hb n hn)] at this
    exact this))
  show (PyData.strOk _ && (PyData.strOk _ && true)) = true
  rw [h1, h2]
  rfl
theorem drop_last {vs : List Value} {ts : List Str} (hs : StrsAre vs ts) : StrsAre (slicePick vs.toArray none (some (-1)) none).toList ts.dropLast := by
  rw [pick_last, List.dropLast_eq_take, List.dropLast_eq_take, hs.length]
  exact hs.take' _
theorem last_good (n : Nat) : ∀ y ∈ (wordsOf n).dropLast, Good y := fun y hy => good_words n y (List.dropLast_subset _ hy)
theorem last_12 (n : Nat) : (wordsOf n).dropLast.length ≤ 12 := by rw [List.length_dropLast]; exact Nat.le_trans (Nat.sub_le _ _) (words_len n)
theorem row_weight {ts : List Str} (h : ∀ y ∈ ts, Good y) (hl : ts.length ≤ 12) : (ts.map (·.length)).sum + ts.length ≤ 1048576 :=
  Nat.le_trans (Nat.add_le_add (Nat.le_trans (weight_of fun y hy => (h y hy).2.2.2.2) (Nat.mul_le_mul_left _ hl)) hl) (by decide)
theorem row_fits {ts : List Str} (h : ∀ y ∈ ts, Good y) (hl : ts.length ≤ 12) : slash.length + (PySem.Txt.join slash ts).length ≤ sizeLine := by
  have h := (way_len h hl).1
  unfold wayOf at h
  rw [Str.length_append] at h
  rw [sizeLine_eq]
  exact Nat.le_trans h (by decide)
noncomputable def pairsOf (n : Nat) : List (Nat × Nat) := (List.range n).flatMap fun k => (List.range k).map fun j => (j, k)
theorem pairs_succ (n : Nat) : pairsOf (n + 1) = pairsOf n ++ (List.range n).map fun j => (j, n) := by
  unfold pairsOf
  rw [List.range_succ, List.flatMap_append, List.flatMap_singleton]
theorem pairs_len : ∀ n, n ≤ 8 → (pairsOf n).length ≤ 28 := by decide +kernel
theorem pairs_lt {n : Nat} {p : Nat × Nat} (h : p ∈ pairsOf n) : p.1 < n ∧ p.2 < n := by
  obtain ⟨k, hk, h⟩ := List.mem_flatMap.mp h
  obtain ⟨j, hj, e⟩ := List.mem_map.mp h
  subst e
  exact ⟨Nat.lt_trans (List.mem_range.mp hj) (List.mem_range.mp hk), List.mem_range.mp hk⟩
noncomputable def PairAt (nw : List (Addr × Obj)) (v : Value) (p : Nat × Nat) : Prop := ∃ t v₁ v₂, v = .ref t ∧ (t, tupObj [v₁, v₂]) ∈ nw ∧ IsI (p.1 : Int) v₁ ∧ IsI (p.2 : Int) v₂
theorem PairAt.sub {nw nw' : List (Addr × Obj)} {v : Value} {p : Nat × Nat} (hs : ∀ p ∈ nw, p ∈ nw') : PairAt nw v p → PairAt nw' v p := fun q2z => by obtain ⟨t, a, b, e, hm, r⟩ := q2z; exact ⟨t, a, b, e, hs _ hm, r⟩
noncomputable def PairsAre (nw : List (Addr × Obj)) (ys : List Value) (ps : List (Nat × Nat)) : Prop := ys.length = ps.length ∧ ∀ (i : Nat) (v : Value), ys[i]? = some v → ∃ p, ps[i]? = some p ∧ PairAt nw v p
theorem PairsAre.snoc {nw nw' : List (Addr × Obj)} {ys : List Value} {ps : List (Nat × Nat)} {v : Value} {p : Nat × Nat} (h : PairsAre nw ys ps) (hs : ∀ p ∈ nw, p ∈ nw') (hv : PairAt nw' v p) : PairsAre nw' (ys ++ [v]) (ps ++ [p]) := by
  refine And.intro (by rw [List.length_append, List.length_append, h.1]; rfl) fun i u e => ?_
  by_cases hi : i < ys.length
  · rw [List.getElem?_append_left hi] at e
    obtain ⟨q, hq, hu⟩ := h.2 i u e
    exact ⟨q, by rw [List.getElem?_append_left (h.1 ▸ hi)]; exact hq, hu.sub hs⟩
  · rw [List.getElem?_append_right (Nat.le_of_not_lt hi)] at e
    rw [List.getElem?_append_right (h.1 ▸ Nat.le_of_not_lt hi), ← h.1]
    generalize i - ys.length = j at e
    cases j with
    | zero => cases e; exact ⟨p, rfl, hv⟩
    | succ j => cases e
noncomputable def meetP (S : List Nat) (p : Nat × Nat) : Str := meetOf (S.getD p.1 0) (S.getD p.2 0)
theorem ok_meet (n q : Nat) : PyData.strOk (meetOf n q) = true := by
  unfold meetOf
  split
  · exact ok_wayN n
  · dsimp only
    split
    · exact ok_slash
    · exact ok_wayN _
theorem at_getD {S : List Nat} {j : Nat} (h : j < S.length) : S[j]? = some (S.getD j 0) := by
  rw [List.getD_eq_getElem?_getD, List.getElem?_eq_getElem h]; rfl
theorem strs_rep {x : Str} {vs : List Value} (h : StrsAre vs [x]) : ∀ n : Nat, StrsAre (List.replicate n vs).flatten (List.replicate n x)
  | 0 => .nil
  | n + 1 => by
    rw [List.replicate_succ, List.replicate_succ, List.flatten_cons]
    exact StrsAre.append' h (strs_rep h n)
end Mine

namespace Mine
section
open LCg
theorem bz_isbb {ns : List Int} {c : Cx} {m : Str → Option Value} {nw : List (Addr × Obj)} (vs : List Value) : (∃ v u, vs = [v, u] ∧ IsB ns v ∧ u = .type "bytes") → Bz c m nw (.builtin "isinstance") vs (· = .bool true) := fun q1z => by
  obtain ⟨v, u, e, ⟨t, e1⟩, e2⟩ := q1z
  subst e e1 e2
  exact fun s h tk Q C k E => call_isinstance_yes (Tx := "bytes") (typeIs_bytes _ _ _) F.isi_meta_bytes F.sub_bytes_bytes (k _ h _ C rfl)
theorem bz_lenb {ns : List Int} {n : Nat} (hn : ns.length = n) (hz : n ≤ 1048576) {c : Cx} {m : Str → Option Value} {nw : List (Addr × Obj)} (vs : List Value) : (∃ v, vs = [v] ∧ IsB ns v) → Bz c m nw (.builtin "len") vs (IsI n) := fun q2z => by
  obtain ⟨v, e, t, e1⟩ := q2z
  subst e e1 hn
  rw [← byteArr_size] at hz ⊢
  exact fun s h tk Q C k E => W.len_bytes (Nat.le_trans hz (by decide)) (k _ h _ C ⟨_, rfl⟩)
section
variable {c : Cx} {env : Env} {m : Str → Option Value} {nw : List (Addr × Obj)} {pos px : Pos} {k n : Nat} {it elt : Expr} {x : Str} {scope : Scope} {cl : List (Str × Addr)} {α β : Type} {B : List α} {P : Nat → Value → Prop} {S : List (Addr × Obj) → Prop} {Qk : α → Value → Prop}
theorem EvN.mapC {f : α → β} {Rel : List Value → List β → Prop} {RP : β → Value → Prop} (h0 : Rel [] []) (snoc : ∀ {ys bs b v}, Rel ys bs → RP b v → Rel (ys ++ [v]) (bs ++ [b])) (d : Src c env m nw it n P S) (hS : ∀ tl, S (tl ++ nw)) (hn : B.length = n) (hz : n ≤ sizeLine) (hP : ∀ i v, i < n → P i v → ∃ k, B[i]? = some k ∧ Qk k v)
    (turn : ∀ k v I oI C oC D ys m₂, k ∈ B → Qk k v → NsObj oC m₂ → m₂ x = some v → Ev c (compEnvC scope cl C env) m ((I, oI) :: (C, oC) :: (D, lst ys) :: nw) elt (RP (f k)))
    (hclos : closureFor scope env = pure cl) (hcell : ∀ y ∈ scope.names, y.2 ≠ .cell) (hkind : scope.kind = .function) (hx : scope.names.lookup x = some .local)
    (hnames : ∀ y ∈ scope.names, y.2 = .local → scope.names.lookup y.1 = some .local) (hs : ∀ x, foldedSetIterable it env x = pure x) : EvN c env m nw (.ListComp elt [⟨.Name x px, it, [], 0⟩] scope pos) (NewL (Rel · (B.map f))) :=
  (EvN.comp d (.fix (K := fun i ys => Rel ys ((B.map f).take i)) h0 fun i v ys I oI C oC D m₂ hi hv hK hC hx => by
    obtain ⟨k, hk, hq⟩ := hP i v hi hv
    refine (turn k v I oI C oC D ys m₂ (List.mem_of_getElem? hk) hq hC hx).mono fun y hy => ?_
    rw [List.take_add_one, List.getElem?_map, hk]
    exact snoc hK hy) hS hz hclos hcell hkind hx hnames hs).mono fun v tl q3z => by obtain ⟨D, ys, tl', e, e1, e2, hK⟩ := q3z; exact ⟨D, ys, _, e, e1.trans (congrArg _ e2), by rw [← hn, ← List.length_map (f := f), List.take_length] at hK; exact hK⟩
theorem EvN.mapT {f : α → Dat} (d : Src c env m nw it n P S) (hS : ∀ tl, S (tl ++ nw)) (hn : B.length = n) (hz : n ≤ sizeLine) (hP : ∀ i v, i < n → P i v → ∃ k, B[i]? = some k ∧ Qk k v)
    (turn : ∀ k v I oI C oC D ys tl m₂, k ∈ B → Qk k v → NsObj oC m₂ → m₂ x = some v → EvN c (compEnvC scope cl C env) m ((I, oI) :: (C, oC) :: (D, lst ys) :: (tl ++ nw)) elt (fun y tl' => DatIn tl' y (f k)))
    (hclos : closureFor scope env = pure cl) (hcell : ∀ y ∈ scope.names, y.2 ≠ .cell) (hkind : scope.kind = .function) (hx : scope.names.lookup x = some .local)
    (hnames : ∀ y ∈ scope.names, y.2 = .local → scope.names.lookup y.1 = some .local) (hs : ∀ x, foldedSetIterable it env x = pure x) : EvN c env m nw (.ListComp elt [⟨.Name x px, it, [], 0⟩] scope pos) (DatL (B.map f) nw) :=
  (EvN.comp (J := fun i ys tl => DatAll tl ys ((B.map f).take i)) d ⟨.nil, fun i v ys tl I oI C oC D m₂ hi hv hJ hC hx => by
    obtain ⟨k, hk, hq⟩ := hP i v hi hv
    refine (turn k v I oI C oC D ys tl m₂ (List.mem_of_getElem? hk) hq hC hx).mono fun y tl' hy => ?_
    rw [List.take_add_one, List.getElem?_map, hk]
    exact (hJ.mono fun p hp => List.mem_append_right _ hp).append (DatAll.one (hy.mono fun p hp => List.mem_append_left _ hp))⟩ hS hz hclos hcell hkind hx hnames hs).mono fun v tl q4z => by
      obtain ⟨D, ys, tl', e, e1, hJ⟩ := q4z
      subst e e1
      rw [← hn, ← List.length_map (f := f), List.take_length] at hJ
      exact ⟨D, ys, rfl, ⟨_, .head _⟩, hJ.mono fun p hp => .tail _ (List.mem_append_left _ hp)⟩
theorem EvN.mapN {T : List Value → Prop} {f : α → Int} (O : Ok c k) (d : EvN c env m nw it (NewL T)) (hz : B.length ≤ sizeLine) (hP : ∀ vs, T vs → vs.length = B.length ∧ ∀ (i : Nat) (v : Value), vs[i]? = some v → ∃ k, B[i]? = some k ∧ Qk k v)
    (turn : ∀ l k v I oI C oC D ys m₂, k ∈ B → Qk k v → NsObj oC m₂ → m₂ x = some v → Ev c (compEnvC scope cl C env) m ((I, oI) :: (C, oC) :: (D, lst ys) :: l :: nw) elt (IsI (f k)))
    (hclos : closureFor scope env = pure cl) (hcell : ∀ y ∈ scope.names, y.2 ≠ .cell) (hkind : scope.kind = .function) (hx : scope.names.lookup x = some .local)
    (hnames : ∀ y ∈ scope.names, y.2 = .local → scope.names.lookup y.1 = some .local) (hs : ∀ x, foldedSetIterable it env x = pure x) : EvN c env m nw (.ListComp elt [⟨.Name x px, it, [], 0⟩] scope pos) (NewL (IntsAre · (B.map f))) := fun s h tk Q C kq E =>
  comp_E hclos hkind hnames (d s h tk (fun xv s₁ => wpAny (model PR c.w) c.A (pyIter xv) (fun it' s₂ => CompR PR c.w c.A c.h₀ c.L m env (.ListComp elt [⟨.Name x px, it, [], 0⟩] scope pos) scope cl (FinE c.h₀ c.L m s₂ Q) it' s₂) E s₁) C (fun v tl h1 tk1 C1 _ q5z => by
    obtain ⟨l, vs, nn, e, e1, hT⟩ := q5z
    subst e e1
    obtain ⟨hl, hP⟩ := hP vs hT
    refine iter_list (its := vs.toArray) (s := { s with heap := h1, toks := tk1 }) O.hh C1.F C1.N (src_S ⟨nn, .head _⟩) fun I h' B' => turns_R (nw := (l, W.listOf vs.toArray nn) :: nw) (.fix (K := fun i ys => IntsAre ys ((B.map f).take i)) .nil fun i v ys I oI C oC D m₂ hi hv hK hC hx => ?_) (fun tl => src_S (vs := vs) ⟨nn, List.mem_append_right _ (.head _)⟩) (by rw [List.size_toArray, hl]; exact hz) hcell hkind hx B' fun ys tl hJ ho D h2 tk2 F2 N2 o1 => ?_
    · obtain ⟨k, hk, hq⟩ := hP i v (by simpa using hv)
      refine (turn _ k v I oI C oC D ys m₂ (List.mem_of_getElem? hk) hq hC hx).mono fun y hy => ?_
      rw [List.take_add_one, List.getElem?_map, hk]
      exact ints_snoc hK hy
    · obtain ⟨e, hK⟩ := hJ
      subst e
      rw [List.size_toArray, hl, ← List.length_map (f := f), List.take_length] at hK
      exact kq (.ref D) [_] h2 tk2 ⟨F2, fun p hp => N2 p (sub_2 (t1 := [_]) (t2 := []) p hp)⟩ (one_ord fun p hp => off1_mem o1 p (.tail _ hp)) ⟨D, ys, _, rfl, rfl, hK⟩) E) hs
theorem Ev.neg {e : Expr} {y : Int} (h : Ev c env m nw e (IsI y)) : Ev c env m nw (.UnaryOp .USub e pos) (IsI (-y)) := fun s hh tk Q C kq E =>
  UnaryOp_ (h s hh tk _ C (fun v h1 tk1 C1 q6z => by obtain ⟨t, e⟩ := q6z; subst e; exact neg_int (kq _ _ _ C1 ⟨_, rfl⟩)) E)
theorem parts_dat {x y : Str} {r : Value} {tl : List (Addr × Obj)} : (∃ a vs, r = .ref a ∧ tl = [(a, tupObj vs)] ∧ ∃ v u, vs = [v, u] ∧ IsS x v ∧ IsS y u) → DatIn tl r (.tuple [.str x, .str y]) := fun q7z => by
  obtain ⟨a, vs, e, e1, v, u, e2, ⟨t1, e3⟩, t2, e4⟩ := q7z
  subst e e1 e2 e3 e4
  exact .tuple (.head _) (.cons (.str x t1) (.cons (.str y t2) .nil))
theorem ways_item {f : α → Str} {vs : List Value} (h : StrsAre vs (B.map f)) {i : Nat} {v : Value} (e : vs[i]? = some v) : ∃ k, B[i]? = some k ∧ IsS (f k) v := by
  obtain ⟨y, t, e1, hy⟩ := h.item i v e
  obtain ⟨k, hk, e2⟩ := map_at hy
  exact ⟨k, hk, t, e2 ▸ e1⟩
theorem EvN.has {e : Expr} {T : List Value → Prop} (h : EvN c env m nw e (NewL T)) : EvN c env m nw e (fun v tl => ∃ l vs, v = .ref l ∧ (∀ h, Cur c m (tl ++ nw) h → h.IsList l (vs : List Value).toArray) ∧ T vs) := h.mono fun _ _ q8z => by obtain ⟨l, vs, nn, e, e1, h⟩ := q8z; exact ⟨l, vs, e, fun _ C => by subst e1; exact C.N.isList (.head _), h⟩
theorem Ev.nats {o i : Expr} {l : Addr} {vs : List Value} {ns : List Nat} {j : Nat} (hm : LAt vs nw l) (hn : NatsAre vs ns) (hj : j < ns.length) (hz : j < 1048576) (ho : Ev c env m nw o (· = .ref l)) (hi : Ev c env m nw i (IsI j))
    (hs : ∀ l k u, subscripted i false (.ref l) (.int k u) = operate [.ref l, .int k u] (getItem (.ref l) (.int k u))) : Ev c env m nw (.Subscript o i pos) (IsI (ns.getD j 0 : Nat)) := by
  obtain ⟨t, e⟩ := hn.get j ((ns.getD j 0 : Nat) : Int) (by rw [List.getElem?_map, at_getD hj]; rfl)
  exact (Ev.at hm (Int.natCast_nonneg j) (Int.ofNat_lt.mpr hz) e ho hi hs).mono fun v ev => ⟨t, ev⟩
theorem EvN.pairC {px₂ tp : Pos} {kk : Nat} {a : Expr} {x₂ : Str} {la : Addr} {vs : List Value} {ps : List (Nat × Nat)} {f : Nat × Nat → Str} (O : Ok c k) (hl : LAt vs nw la) (hp : PairsAre nw vs ps) (hz : ps.length ≤ sizeLine) (ha : Ev c env m nw a (· = .ref la))
    (turn : ∀ p v₁ v₂ I oI C oC D ys m₂, p ∈ ps → IsI (p.1 : Int) v₁ → IsI (p.2 : Int) v₂ → NsObj oC m₂ → m₂ x = some v₁ → m₂ x₂ = some v₂ → Ev c (compEnvC scope cl C env) m ((I, oI) :: (C, oC) :: (D, lst ys) :: nw) elt (IsS (f p)))
    (hclos : closureFor scope env = pure cl) (hcell : ∀ y ∈ scope.names, y.2 ≠ .cell) (hkind : scope.kind = .function) (hx : scope.names.lookup x = some .local) (hx₂ : scope.names.lookup x₂ = some .local) (hxx : x ≠ x₂)
    (hnames : ∀ y ∈ scope.names, y.2 = .local → scope.names.lookup y.1 = some .local) (hs : ∀ x, foldedSetIterable a env x = pure x) :
    EvN c env m nw (.ListComp elt [⟨.Tuple [.Name x px, .Name x₂ px₂] kk tp, a, [], 0⟩] scope pos) (NewL (StrsAre · (ps.map f))) :=
  (EvN.compP (n := ps.length) (K := fun i zs => StrsAre zs ((ps.map f).take i)) (T := fun i v₁ v₂ => ∃ p, ps[i]? = some p ∧ IsI (p.1 : Int) v₁ ∧ IsI (p.2 : Int) v₂) O hl hp.1 hz ha .nil (fun i v e => by
    obtain ⟨p, h1, t, v₁, v₂, e, hm, h2⟩ := hp.2 i v e
    exact ⟨t, v₁, v₂, e, hm, p, h1, h2⟩) (fun i v₁ v₂ ys I oI C oC D m₂ _ q9z hK hC e1 e2 => by
    obtain ⟨p, h1, h2, h3⟩ := q9z
    refine (turn p v₁ v₂ I oI C oC D ys m₂ (List.mem_of_getElem? h1) h2 h3 hC e1 e2).mono fun y hy => ?_
    rw [List.take_add_one, List.getElem?_map, h1]
    exact strs_snoc hK hy) hclos hcell hkind hx hx₂ hxx hnames hs).mono fun v tl q10z => by obtain ⟨l, vs, nn, e, e1, h⟩ := q10z; exact ⟨l, vs, nn, e, e1, by rw [← List.length_map (f := f), List.take_length] at h; exact h⟩
theorem EvN.newM {e : Expr} {T T' : List Value → Prop} (h : EvN c env m nw e (NewL T)) (hT : ∀ vs, T vs → T' vs) : EvN c env m nw e (InL T' nw) := EvN.new (h.mono fun _ _ q11z => by obtain ⟨l, vs, nn, e, e1, h⟩ := q11z; exact ⟨l, vs, nn, e, e1, hT vs h⟩)
theorem Evs.strE {e : Expr} {es : List Expr} {x : Str} {ts : List Str} (h : Ev c env m nw e (IsS x)) (hs : Evs c env m nw es (StrsAre · ts)) (he : starEach (e :: es) env = (false, eval e env) :: starEach es env) : Evs c env m nw (e :: es) (StrsAre · (x :: ts)) := fun s hh tk pos Q C k E =>
  args_cons (h s hh tk _ C (fun v h1 tk1 C1 q12z => by obtain ⟨t, e⟩ := q12z; subst e; exact hs s h1 tk1 pos _ C1 (fun r h2 tk2 C2 q => k _ _ _ C2 (.cons _ _ q)) E) E) he
section
variable {s : Shared} {h : Heap} {tk : Nat} {Q : Flow → Shared → Prop} {rest : List Stmt} {e : Expr} {T : List Value → Prop} {p : Pos}
theorem go_asgL (C : Cur c m nw h) (d : EvN c env m nw e (NewL T)) (kq : ∀ l vs N m' h' tk', T vs → LAt vs N l → (∀ p ∈ nw, p ∈ N) → Cur c m' N h' → m' x = some (.ref l) → (∀ z u, z ≠ x → m z = some u → m' z = some u) → Go c env rest Q s h' tk')
    (hL : env.locals = c.L) (hl : env.kindOf x = some .local) (hp : (env.scope.kind == .class || (env.scope.kind == .module && env.locals != env.globals)) = false) (hs : swapsWith e (some (.Name x p)) pos.line env = pure false) :
    Go c env (.Assign [.Name x p] e pos :: rest) Q s h tk :=
  go_asgN C d (fun v tl m' h' tk' q13z _ C' ex kp => by
    obtain ⟨l, vs, nn, e, e1, hT⟩ := q13z
    subst e e1
    exact kq l vs _ m' h' tk' hT ⟨nn, .head _⟩ (fun p hp => .tail _ hp) C' ex kp) hL hl hp hs
theorem go_asgCL {ac : Addr} {o : Obj} {v₀ : Option Value} (C : Cur c m nw h) (d : EvN c env m nw e (NewL T)) (hm : (ac, o) ∈ nw) (hd : o.data = .cell v₀)
    (kq : ∀ l vs o' N h' tk', T vs → LAt vs N l → (ac, o') ∈ N → o'.data = .cell (some (.ref l)) → (∀ p ∈ nw, (@Ne Nat p.1 ac ∨ ∀ u, p.2.data ≠ .cell u) → p ∈ N) → Cur c m N h' → Go c env rest Q s h' tk') (hc : env.cells.lookup x = some ac) (hk : env.scope.kind = .function) (hx : env.kindOf x = some .cell) (hs : swapsWith e (some (.Name x p)) pos.line env = pure false) :
    Go c env (.Assign [.Name x p] e pos :: rest) Q s h tk :=
  go_asgC C d hm hd (fun v tl h' tk' nw' q14z _ C' st => by
    obtain ⟨l, vs, nn, e, e1, hT⟩ := q14z
    subst e e1
    obtain ⟨o', h1, h2⟩ := st.at'
    exact kq l vs o' nw' h' tk' hT (LAt.sub ⟨nn, .head _⟩ st) h1 h2 (fun p hp hq => st.sub p (.tail _ hp) hq) C') hc hk hx hs
end
end
end
end Mine

namespace Mine
section
open LCg
noncomputable def RowAt (nw : List (Addr × Obj)) (ts : List Str) (v : Value) : Prop := ∃ l vs, v = .ref l ∧ LAt vs nw l ∧ StrsAre vs ts
theorem RowAt.sub {nw nw' : List (Addr × Obj)} {ts : List Str} {v : Value} (hs : ∀ p ∈ nw, p ∈ nw') : RowAt nw ts v → RowAt nw' ts v
  | ⟨l, vs, e, ⟨nn, hm⟩, h⟩ => ⟨l, vs, e, ⟨nn, hs _ hm⟩, h⟩
noncomputable def Rows (f : Nat → List Str) : Nat → List Value → List (Addr × Obj) → Prop
  | 0, ys, _ => ys = []
  | i + 1, ys, tl => ∃ ys' tl' tl'' v, ys = ys' ++ [v] ∧ tl = tl'' ++ tl' ∧ NewL (StrsAre · (f i)) v tl'' ∧ Rows f i ys' tl'
theorem newl_row {nw tl : List (Addr × Obj)} {ts : List Str} {v : Value} (h : NewL (StrsAre · ts) v tl) : RowAt (tl ++ nw) ts v := by
  obtain ⟨l, vs, nn, e, e1, h⟩ := h
  subst e e1
  exact ⟨l, vs, rfl, ⟨nn, .head _⟩, h⟩
theorem Rows.next {f : Nat → List Str} {i : Nat} {ys : List Value} {tl tl' : List (Addr × Obj)} {v : Value} (h : Rows f i ys tl) (hn : NewL (StrsAre · (f i)) v tl') : Rows f (i + 1) (ys ++ [v]) (tl' ++ tl) := ⟨ys, tl, tl', v, rfl, rfl, hn, h⟩
theorem Rows.two {f : Nat → List Str} {ys : List Value} {tl : List (Addr × Obj)} (h : Rows f 2 ys tl) : ∃ v u, ys = [v, u] ∧ RowAt tl (f 0) v ∧ RowAt tl (f 1) u := by
  obtain ⟨ys1, t1, t2, u, e, e1, h1, ys0, t0, t3, v, e2, e3, h0, e4⟩ := h
  subst e e1
  exact ⟨v, u, by rw [e2, show ys0 = [] from e4]; rfl, e3 ▸ (newl_row h0).sub fun p hp => List.mem_append_right _ hp, newl_row h1⟩
theorem pair_at {α : Type} {P : Nat → α → Prop} {v0 v1 : α} (h0 : P 0 v0) (h1 : P 1 v1) : ∀ {i : Nat} {v : α}, [v0, v1][i]? = some v → P i v
  | 0, _, e => Option.some.inj e ▸ h0
  | 1, _, e => Option.some.inj e ▸ h1
  | _ + 2, _, e => nomatch e
noncomputable def tst (y : Str) : Bool := (y.length : Int) != 0 && (y != Str.ofString "." && true)
theorem tst_good {y : Str} (h : Good y) : tst y = true := by
  unfold tst
  rw [Bool.and_true, bne_iff_ne.mpr (good_dot h), Bool.and_true]
  exact bne_iff_ne.mpr fun e => good_len h (Int.ofNat.inj e)
theorem row_yes {ws : List Str} {ys : List Value} {y : Str} {v : Value} {j : Nat} (hy : (Str.empty :: ws)[j]? = some y) (h : StrsAre ys (ws.take (j - 1))) (hv : IsS y v) (hb : tst y = true) : StrsAre (ys ++ [v]) (ws.take j) := by
  cases j with
  | zero => cases Option.some.inj hy; exact Bool.noConfusion hb
  | succ j =>
    obtain ⟨t, e⟩ := hv
    rw [List.take_add_one, show ws[j]? = some y from hy, e]
    exact StrsAre.append' h (.cons _ _ .nil)
theorem row_no {ws : List Str} {ys : List Value} {y : Str} {j : Nat} (hg : ∀ y ∈ ws, Good y) (hy : (Str.empty :: ws)[j]? = some y) (h : StrsAre ys (ws.take (j - 1))) (hb : tst y = false) : StrsAre ys (ws.take j) := by
  cases j with
  | zero => exact h
  | succ j => rw [tst_good (hg y (List.mem_of_getElem? hy))] at hb; cases hb
section
variable {c : Cx} {m : Str → Option Value} {nw : List (Addr × Obj)} {k : Nat}
theorem bz_min2 {l : Addr} {v0 v1 : Value} {xs ys : List Str} (O : Ok c (k + 1)) (hl : LAt [v0, v1] nw l) (r0 : RowAt nw xs v0) (r1 : RowAt nw ys v1) (vs : List Value) (hv : ∃ v, vs = [v] ∧ v = .ref l) : Bz c m nw (.builtin "min") vs (RowAt nw (lesser xs ys)) := by
  obtain ⟨_, e, e'⟩ := hv
  subst e e'
  obtain ⟨nn, hl⟩ := hl
  have r : RowAt nw (lesser xs ys) (if lexLt ys xs = true then v1 else v0) := by unfold lesser; split <;> assumption
  obtain ⟨a0, u0, e0, ⟨n0, m0⟩, s0⟩ := r0
  obtain ⟨a1, u1, e1, ⟨n1, m1⟩, s1⟩ := r1
  intro s h tk Q C kq E
  refine min_pair (s := { s with heap := h, toks := tk }) O.hh (C.N.isList hl) (fun s' Q E up hq => ?_) fun h' tk' up => kq _ h' tk' ⟨C.F.keeps up, C.N.grown up⟩ r
  rw [e0, e1]
  exact rich_lt s1 s0 (up _ _ (C.N.get m1)) (up _ _ (C.N.get m0)) (Nat.lt_of_le_of_lt (Nat.add_le_add_left (Nat.le_trans (by decide) (Nat.le_mul_of_pos_right 16 (Nat.succ_pos k))) _) O.hu) hq
theorem bz_max2 {l : Addr} {v0 v1 : Value} {xs ys : List Str} (O : Ok c (k + 1)) (hl : LAt [v0, v1] nw l) (r0 : RowAt nw xs v0) (r1 : RowAt nw ys v1) (vs : List Value) (hv : ∃ v, vs = [v] ∧ v = .ref l) : Bz c m nw (.builtin "max") vs (RowAt nw (greater xs ys)) := by
  obtain ⟨_, e, e'⟩ := hv
  subst e e'
  obtain ⟨nn, hl⟩ := hl
  have r : RowAt nw (greater xs ys) (if lexLt xs ys = true then v1 else v0) := by unfold greater; split <;> assumption
  obtain ⟨a0, u0, e0, ⟨n0, m0⟩, s0⟩ := r0
  obtain ⟨a1, u1, e1, ⟨n1, m1⟩, s1⟩ := r1
  intro s h tk Q C kq E
  refine max_pair (s := { s with heap := h, toks := tk }) O.hh (C.N.isList hl) (fun s' Q E up hq => ?_) fun h' tk' up => kq _ h' tk' ⟨C.F.keeps up, C.N.grown up⟩ r
  rw [e0, e1]
  exact rich_gt s1 s0 (up _ _ (C.N.get m1)) (up _ _ (C.N.get m0)) (Nat.lt_of_le_of_lt (Nat.add_le_add_left (Nat.le_trans (by decide) (Nat.le_mul_of_pos_right 16 (Nat.succ_pos k))) _) O.hu) hq
end
inductive EJ (lo hi : List Str) (m : Str → Option Value) : Nat → (Str → Option Value) → Prop
  | mk {i m₁} (kp : ∀ z w, z ≠ Str.ofString "i" → z ≠ Str.ofString "c" → m z = some w → m₁ z = some w) (e : lo.take i = hi.take i) : EJ lo hi m i m₁
inductive EK (N : List (Addr × Obj)) (ts : List Str) : (Str → Option Value) → List (Addr × Obj) → Prop
  | mk {m nw v} (hc : m (Str.ofString "common") = some v) (hr : RowAt nw ts v) (ha : m (Str.ofString "isabs") = some (.bool true)) (sub : ∀ p ∈ N, p ∈ nw) : EK N ts m nw
theorem z_common (n q : Nat) (nw : List (Addr × Obj)) (h1 : n < 4096) (h2 : q < 4096) (vs : List Value) (hv : ∃ v, vs = [v] ∧ RowAt nw [wayOf (wordsOf n), wayOf (wordsOf q)] v) : Dz 3 165 vs nw (fun r tl => IsS (wayOf (cpre (wordsOf n) (wordsOf q))) r ∧ tl = []) := by
  obtain ⟨_, e, la, us, e1, hm, hus⟩ := hv
  subst e e1
  have kfill : Mine.trow = Mine.trow ∧ hd0183.heap_39 = hd0183.heap_39 := by k_fill; exact ⟨rfl, rfl⟩
  refine' Mine.enterC (binds := [(Str.ofString "paths", .ref la)]) ?ka ?kb ?kc ?kd ?ki ?ke ?kf ?kg ?_; (case ka => intro w; k_is); (case kb => intro w; k_is); (case kc => exact fun _ => BindsTo.of_eq rfl); (case kd => exact rfl); (case ki => decide +kernel); (case ke => exact rfl); (case kf => exact rfl); (case kg => exact rfl)
  clear kfill
  intro c s h tk m cells R O C ha hY hlt hR
  obtain ⟨o2, o1, e1, hd2, hd1⟩ := hY.two
  subst e1
  have hd1 : o1.data = .cell none := hd1
  have hd2 : o2.data = .cell none := hd2
  have hz : us.length = 2 := hus.length
  refine go_asgN (hL := by rfl) (hl := by rfl) (hp := by rfl) (hs := by rfl) C (.tmap (hk := by rfl) (hx := by rfl) (hx' := by rfl) (hg := by rfl) (hb := by rfl) (he := by rfl) (he' := by rfl) (hs := by rfl) (hs1 := by rfl) (hs2 := by rfl) (hp := by rfl) (k := 1) O (.glob (hk := by rfl) (hx := by rfl) (hg := by rfl) (hd := by decide) O (d_fspath c.w).1) (.loc (hL := by rfl) (hk := by rfl) (hl := by rfl) (hd := by decide) (ha _ _ rfl) rfl) (hm.imp fun _ h => .tail _ (.tail _ h)) (hz ▸ by decide) fun x hx nw' => ?_) fun v tl m1 h1' tk1 hv o C1 ep kp => ?_
  · obtain ⟨i, hi⟩ := List.getElem?_of_mem hx
    obtain ⟨y, ty, e, _⟩ := hus.item i x hi
    subst e
    exact z_fspath0 y ty nw'
  obtain ⟨ta, e, e1⟩ := hv
  subst e e1
  have hta : (ta, tupObj us) ∈ [(ta, tupObj us)] ++ ((c.L + 2, o2) :: (c.L + 1, o1) :: nw) := .head _
  have hu0 : ∃ t, us[0]? = some (.str (wayOf (wordsOf n)) t) := hus.get 0 _ rfl
  obtain ⟨t0, hu0⟩ := hu0
  refine go_if (b := false) C1 (.not (.as (b' := true) (.tup (he := by rfl) hta (hz ▸ by decide) (.loc (hL := by rfl) (hk := by rfl) (hl := by rfl) (hd := by decide) ep rfl)) (by cases us with | nil => cases hz | cons => rfl))) fun h2' tk2 C2 => ?_
  refine Then.nil (go_if (b := false) C2 (.val (he := by rfl) truth_bool (.bi (hk := by rfl) (hx := by rfl) (hg := by rfl) (hb := by rfl) (hd := by decide) (he := by rfl) (hs := by rfl) (hp := by rfl) O g_isinstance bz_isb (.two (hs := by rfl) (hs' := by rfl) (.mono (.tupAt (hs := by intro _ _ _; with_unfolding_all rfl) (n := 0) (x := .str (wayOf (wordsOf n)) t0) hta (by decide) (by decide) (by rw [hz]; rfl) hu0 (.loc (hL := by rfl) (hk := by rfl) (hl := by rfl) (hd := by decide) ep rfl) .int) fun v e => ⟨t0, e⟩) (.bname (hk := by rfl) (hx := by rfl) (hg := by rfl) (hb := by rfl) (hd := by decide) O g_bytes)))) fun h3 tk3 C3 => ?_)
  refine go_asgC (hc := by rfl) (hk := by rfl) (hx := by rfl) (hs := by rfl) C3 (.of .str) (.tail _ (.tail _ (.head _))) hd1 fun v tl h4 tk4 N2 hv o C4 st => ?_
  obtain ⟨hvs, e⟩ := hv
  subst e
  obtain ⟨p1, q1, d1⟩ := st.at'
  have q2 := st.sub _ (.tail _ (.head _)) (Or.inl (Nat.succ_ne_self _))
  have qt := st.sub _ (.head _) (Or.inr fun _ e => nomatch e)
  have qn : ∀ p ∈ nw, p ∈ N2 := fun p hp => st.sub p (.tail _ (.tail _ (.tail _ hp))) (Or.inl (Nat.ne_of_lt (Nat.lt_succ_of_lt (hlt p hp))))
  clear st o hd1
  refine go_asgC (hc := by rfl) (hk := by rfl) (hx := by rfl) (hs := by rfl) C4 (.of .str) q2 hd2 fun v2 tl h5 tk5 N3 hv2 o C5 st => Then.nil ?_
  obtain ⟨hvc, e⟩ := hv2
  subst e
  obtain ⟨p2, r2, d2⟩ := st.at'
  have r1 := st.sub _ q1 (Or.inl (Nat.ne_of_lt (Nat.lt_succ_self _)))
  have rt := st.sub _ qt (Or.inr fun _ e => nomatch e)
  have rn : ∀ p ∈ nw, p ∈ N3 := fun p hp => st.sub p (qn p hp) (Or.inl (Nat.ne_of_lt (Nat.lt_succ_of_lt (Nat.lt_succ_of_lt (hlt p hp)))))
  clear st o hd2 q1 q2 qt qn C4 C3 C2 C1 C hY hlt
  have es : ∀ {env : Env} {p : Pos} {m : Str → Option Value} {nw' : List (Addr × Obj)} (_ : ∀ p ∈ N3, p ∈ nw') (_ : env.cells.lookup (Str.ofString "sep") = some (c.L + 1)) (_ : env.scope.kind = .function) (_ : env.kindOf (Str.ofString "sep") = some .cell), Ev c env m nw' (.Name (Str.ofString "sep") p) (IsS slash) := fun hs h1 h2 h3 => .cell (hb := by decide) h1 (hs _ r1) d1 hvs h2 h3
  have ec : ∀ {env : Env} {p : Pos} {m : Str → Option Value} {nw' : List (Addr × Obj)} (_ : ∀ p ∈ N3, p ∈ nw') (_ : env.cells.lookup (Str.ofString "curdir") = some (c.L + 2)) (_ : env.scope.kind = .function) (_ : env.kindOf (Str.ofString "curdir") = some .cell), Ev c env m nw' (.Name (Str.ofString "curdir") p) (IsS (Str.ofString ".")) := fun hs h1 h2 h3 => .cell (hb := by decide) h1 (hs _ r2) d2 hvc h2 h3
  clear r1 r2 d1 d2 hvs hvc
  have hw : ∀ i, pick n q i < 4096 := pick_lt h1 h2
  have hus' : ∀ {i v}, us[i]? = some v → IsS (wayOf (wordsOf (pick n q i))) v := by
    intro i v hv
    obtain ⟨y, ty, e, hy⟩ := hus.item i v hv
    exact ⟨ty, by rw [e, pair_at (P := fun i v => v = wayOf (wordsOf (pick n q i))) rfl rfl hy]⟩
  have up3 : ∀ {p1 p2 p3 : Addr × Obj} {tl : List (Addr × Obj)}, ∀ p ∈ N3, p ∈ p1 :: p2 :: p3 :: (tl ++ N3) := fun p hp => .tail _ (.tail _ (.tail _ (List.mem_append_right _ hp)))
  refine go_try (go_comp (hcell := by decide) (hkind := by rfl) (hx := by rfl) (hnames := by decide) (hs := by intro _; rfl) (hL := by rfl) (hl := by rfl) (hp := by rfl) (hsw := by rfl) C5 (src_tup O rt (.loc (hL := by rfl) (hk := by rfl) (hl := by rfl) (hd := by decide) ep rfl)) (J := Rows fun i => Str.empty :: wordsOf (pick n q i)) (cl := [(Str.ofString "sep", c.L + 1)]) ⟨rfl, fun i v ys tl I oI C oC D m₂ hi hv hJ hC hx => ?_⟩ (fun tl => ⟨_, List.mem_append_right _ rt⟩) (hz ▸ by decide) (fun v tl m6 h6 tk6 hv o C6 e6 kp => ?_) (by rfl))
  · exact (way_split (words_ne (hw i)) (good_words _) ▸ EvN.split (he := by rfl) (hst := by rfl) (by decide +kernel) (Nat.le_trans (Nat.add_le_add_right (way_len (good_words _) (words_len _)).1 2) (by decide)) (.own (hk := by rfl) (hl := by rfl) (hd := by decide) rfl (.tail _ (.head _)) hC hx (hus' hv)) (es up3 rfl rfl rfl)).mono fun v tl' h => hJ.next h
  have e6p := kp _ _ (by decide) ep
  obtain ⟨D, ys, tl', e, e1, hJ⟩ := hv
  rw [hz] at hJ
  obtain ⟨v0, v1, e2, ra, rb⟩ := hJ.two
  subst e e1 e2
  have hD : LAt [v0, v1] (((D, lst [v0, v1]) :: tl') ++ N3) D := ⟨_, .head _⟩
  have ra : RowAt (((D, lst [v0, v1]) :: tl') ++ N3) (Str.empty :: wordsOf n) v0 := ra.sub fun p hp => .tail _ (List.mem_append_left _ hp)
  have rb : RowAt (((D, lst [v0, v1]) :: tl') ++ N3) (Str.empty :: wordsOf q) v1 := rb.sub fun p hp => .tail _ (List.mem_append_left _ hp)
  have s4 : ∀ p ∈ N3, p ∈ ((D, lst [v0, v1]) :: tl') ++ N3 := fun p hp => List.mem_append_right _ hp
  generalize ((D, lst [v0, v1]) :: tl') ++ N3 = N4 at hD ra rb s4 C6
  clear hJ o kp
  refine go_try (go_set1 (hL := by rfl) (hl := by rfl) (hp := by rfl) (h1 := by with_unfolding_all rfl) (h2 := by with_unfolding_all rfl) (k := 2) O C6 (.set (hcell := by decide) (hkind := by rfl) (hx := by rfl) (hnames := by decide) (hs := by intro _; rfl) (n := 2) (cl := [(Str.ofString "sep", c.L + 1)]) (hz ▸ src_tup O (s4 _ rt) (.loc (hL := by rfl) (hk := by rfl) (hl := by rfl) (hd := by decide) e6p rfl)) (by decide) (fun i v I oI C oC D oD m₂ hi hv hC hx => .mono (.smeth (he := by rfl) (hs := by rfl) g_startswith s_startswith (.own (hk := by rfl) (hl := by rfl) (hd := by decide) rfl (.tail _ (.head _)) hC hx (hus' hv)) (es (fun p hp => .tail _ (.tail _ (.tail _ (s4 p hp)))) rfl rfl rfl)) fun v e => e.trans (congrArg Value.bool (startswith_way _))) (by rfl)) fun m7 h7 tk7 C7 e7 kp => Then.nil ?_)
  have e7s := kp _ _ (by decide) e6
  clear kp e6p C6
  refine go_comp (hcell := by decide) (hkind := by rfl) (hx := by rfl) (hnames := by decide) (hs := by intro _; rfl) (hL := by rfl) (hl := by rfl) (hp := by rfl) (hsw := by rfl) C7 (J := Rows fun i => wordsOf (pick n q i)) (cl := [(Str.ofString "curdir", c.L + 2)]) (src_list O hD (.loc (hL := by rfl) (hk := by rfl) (hl := by rfl) (hd := by decide) e7s rfl)) ⟨rfl, fun i v ys tl I oI C oC D m₂ hi hv hJ hC hx => ?_⟩ (fun tl => src_S (hD.imp fun _ h => List.mem_append_right _ h)) (show 2 ≤ sizeLine by decide) (fun v tl m8 h8 tk8 hv o C8 e8 kp => ?_) (by rfl)
  · obtain ⟨l, vi, e, hl, hvi⟩ := pair_at (P := fun i v => RowAt N4 (Str.empty :: wordsOf (pick n q i)) v) ra rb hv
    subst e
    have hvl := hvi.length
    refine (EvN.compT (hcell := by decide) (hkind := by rfl) (hx := by rfl) (hnames := by decide) (hs := by intro _; rfl) (K := fun j ys => StrsAre ys ((wordsOf (pick n q i)).take (j - 1))) (cl := [(Str.ofString "curdir", c.L + 2)]) (src_list O (hl.imp fun _ h => .tail _ (.tail _ (.tail _ (List.mem_append_right _ h)))) (.own (hk := by rfl) (hl := by rfl) (hd := by decide) rfl (.tail _ (.head _)) hC hx rfl)) .nil (fun j v ys2 I2 oI2 C2 oC2 D2 m₃ hj hv2 hK hC2 hx2 => ?_) (by rw [hvl, sizeLine_eq]; exact Nat.le_trans (Nat.succ_le_succ (words_len _)) (by decide)) (by rfl)).mono fun v tl' h => hJ.next ?_
    · obtain ⟨y, ty, e, hy⟩ := hvi.item j v hv2
      subst e
      have up4 : ∀ q, ∀ p ∈ N4, p ∈ q :: (C, oC) :: (D, lst ys) :: (tl ++ N4) := fun q p hp => .tail _ (.tail _ (.tail _ (List.mem_append_right _ hp)))
      have ey : ∀ {E : Env} {p : Pos} {r : List (Addr × Obj)} (_ : E.locals = C2) (_ : E.scope.kind = .function) (_ : E.kindOf (Str.ofString "c") = some .local), Ev c E m7 ((I2, oI2) :: (C2, oC2) :: r) (.Name (Str.ofString "c") p) (IsS y) := fun h1 h2 h3 => .own (hd := by decide) h1 (.tail _ (.head _)) hC2 hx2 ⟨ty, rfl⟩ h2 h3
      refine ⟨tst y, .parts (.and (.val (he := by rfl) (.str (by
        cases j with
        | zero => cases Option.some.inj hy; decide
        | succ j => exact Nat.le_trans (good_words _ y (List.mem_of_getElem? hy)).2.2.2.2 (by decide))) (ey rfl rfl rfl)) fun _ => .and (.cmp (hm := by with_unfolding_all rfl) cmp_nes (ey rfl rfl rfl) (ec (fun p hp => .tail _ (.tail _ (.tail _ (up4 _ _ (s4 p hp))))) rfl rfl rfl)) fun _ => .and_nil), fun hb => .mono (ey rfl rfl rfl) fun v hv => row_yes hy hK hv hb, fun hb => row_no (good_words _) hy hK hb⟩
    · rw [hvl, List.length_cons, Nat.add_sub_cancel, List.take_length] at h
      exact h
  obtain ⟨D2, ys2, tl2, e, e1, hJ⟩ := hv
  obtain ⟨u0, u1, e2, qa, qb⟩ := hJ.two
  subst e e1 e2
  have hD2 : LAt [u0, u1] (((D2, lst [u0, u1]) :: tl2) ++ N4) D2 := ⟨_, .head _⟩
  have qa : RowAt (((D2, lst [u0, u1]) :: tl2) ++ N4) (wordsOf n) u0 := qa.sub fun p hp => .tail _ (List.mem_append_left _ hp)
  have qb : RowAt (((D2, lst [u0, u1]) :: tl2) ++ N4) (wordsOf q) u1 := qb.sub fun p hp => .tail _ (List.mem_append_left _ hp)
  have s5 : ∀ p ∈ N3, p ∈ ((D2, lst [u0, u1]) :: tl2) ++ N4 := fun p hp => List.mem_append_right _ (s4 p hp)
  have e8i := kp _ _ (by decide) e7
  generalize ((D2, lst [u0, u1]) :: tl2) ++ N4 = N5 at hD2 qa qb s5 C8
  clear hJ o kp hD ra rb s4 C7 e7s e7
  refine go_asg (hL := by rfl) (hl := by rfl) (hp := by rfl) (hs := by rfl) C8 (.bi (hk := by rfl) (hx := by rfl) (hg := by rfl) (hb := by rfl) (hd := by decide) (he := by rfl) (hs := by rfl) (hp := by rfl) O g_min (bz_min2 (k := 1) O hD2 qa qb) (.one (hs := by rfl) (.loc (hL := by rfl) (hk := by rfl) (hl := by rfl) (hd := by decide) e8 rfl))) fun lo m9 h9 tk9 hlo C9 e9 kp => ?_
  refine go_asg (hL := by rfl) (hl := by rfl) (hp := by rfl) (hs := by rfl) C9 (.bi (hk := by rfl) (hx := by rfl) (hg := by rfl) (hb := by rfl) (hd := by decide) (he := by rfl) (hs := by rfl) (hp := by rfl) O g_max (bz_max2 (k := 1) O hD2 qa qb) (.one (hs := by rfl) (.loc (hL := by rfl) (hk := by rfl) (hl := by rfl) (hd := by decide) (kp _ _ (by decide) e8) rfl))) fun hi mA hA tkA hhi CA eA kp2 => ?_
  have eAl := kp2 _ _ (by decide) e9
  have eAi := kp2 _ _ (by decide) (kp _ _ (by decide) e8i)
  clear C8 C9 e8 e9 e8i kp kp2 qa qb hD2
  have LH := lohi (wordsOf n) (wordsOf q)
  have hll : (lesser (wordsOf n) (wordsOf q)).length ≤ 12 := by unfold lesser; split <;> exact words_len _
  generalize lesser (wordsOf n) (wordsOf q) = los at LH hll hlo
  generalize greater (wordsOf n) (wordsOf q) = his at LH hhi
  obtain ⟨rl, vl, e, ml, hlo⟩ := hlo
  obtain ⟨rh, vh, e1, mh, hhi⟩ := hhi
  subst e e1
  refine go_asg (hL := by rfl) (hl := by rfl) (hp := by rfl) (hs := by rfl) CA (.var (hL := by rfl) (hk := by rfl) (hl := by rfl) (hd := by decide) eAl) fun v mB hB tkB e CB eB kp => ?_
  subst e
  have eBl := kp _ _ (by decide) eAl
  have eBh := kp _ _ (by decide) eA
  have eBi := kp _ _ (by decide) eAi
  clear kp eA eAl eAi CA
  refine go_enum (hL := by rfl) (hx := by rfl) (hy := by rfl) (hp := by rfl) (hk := by rfl) (hx' := by rfl) (hg := by rfl) (hb := by rfl) (he := by rfl) (hst := by rfl) (hs := by intro _; rfl) O CB ml (.var (hL := by rfl) (hk := by rfl) (hl := by rfl) (hd := by decide) eBl) (EJ los his mB) (EK N5 (cpre (wordsOf n) (wordsOf q))) (.mk (fun _ _ _ _ e => e) rfl) (fun i v m₁ e oE it oI tk₀ h tk R hv hJ C hN hB => ?_) (fun m₁ hJ => ?_) (fun m₁ nw' h tk hK C => ?_)
  · obtain ⟨kp, he⟩ := hJ
    obtain ⟨y, ty, e, hy⟩ := hlo.item i v hv
    subst e
    have hil := (List.getElem?_eq_some_iff.mp hy).1
    have hih := List.getElem?_eq_getElem (LH.room i he hil)
    generalize his[i]'(LH.room i he hil) = d at hih
    have ek : ∀ z w, z ≠ Str.ofString "i" → z ≠ Str.ofString "c" → mB z = some w → (fun z => if z = Str.ofString "c" then some (Value.str y ty) else if z = Str.ofString "i" then some (.int (i : Int) tk₀) else m₁ z) z = some w := fun z w n1 n2 e => (if_neg n2).trans ((if_neg n1).trans (kp z w n1 n2 e))
    clear kp
    refine go_ite C (.cmp (hm := by with_unfolding_all rfl) cmp_nes (.loc (hL := by rfl) (hk := by rfl) (hl := by rfl) (hd := by decide) (if_pos rfl) ⟨ty, rfl⟩) (.strs (hs := by intro _ _ _; with_unfolding_all rfl) (mh.imp fun _ h => .tail _ (.tail _ h)) hhi (Int.natCast_nonneg i) (Int.ofNat_lt.mpr (Nat.lt_of_lt_of_le hil (Nat.le_trans hll (by decide)))) hih (.loc (hL := by rfl) (hk := by rfl) (hl := by rfl) (hd := by decide) (ek _ _ (by decide) (by decide) eBh) rfl) (.loc (hL := by rfl) (hk := by rfl) (hl := by rfl) (hd := by decide) ((if_neg (by decide)).trans (if_pos rfl)) ⟨tk₀, rfl⟩))) (fun h2 tk2 C2 hb => ?_) fun h2 tk2 C2 hb => Then.nil (go_nil (hN _ _ _ C2 (.mk ek (take_next he hy (by rw [hih, bne_eq_false_iff_eq.mp hb])))))
    refine go_asgN (hL := by rfl) (hl := by rfl) (hp := by rfl) (hs := by rfl) C2 (.upto (hs := by intro _ _; with_unfolding_all rfl) (j := (i : Int)) (ml.imp fun _ h => .tail _ (.tail _ h)) hlo (Int.natCast_nonneg i) (Nat.le_trans hll (by decide)) (.loc (hL := by rfl) (hk := by rfl) (hl := by rfl) (hd := by decide) (ek _ _ (by decide) (by decide) eBl) rfl) fun _ => .loc (hL := by rfl) (hk := by rfl) (hl := by rfl) (hd := by decide) ((if_neg (by decide)).trans (if_pos rfl)) ⟨tk₀, rfl⟩) fun v tl m3 h3 tk3 hv o C3 e3 kp => go_brk (hB _ _ _ _ C3 (.mk e3 ?_ (kp _ _ (by decide) (ek _ _ (by decide) (by decide) eBi)) fun p hp => List.mem_append_right _ (.tail _ (.tail _ hp))))
    obtain ⟨l, vs, nn, e, e1, hvs⟩ := hv
    subst e e1
    exact ⟨l, vs, rfl, ⟨nn, .head _⟩, LH.same.symm.trans (cpre_break los his i y d he hy hih (bne_iff_ne.mp hb)) ▸ hvs⟩
  · obtain ⟨kp, he⟩ := hJ
    rw [hlo.length] at he
    exact .mk (kp _ _ (by decide) (by decide) eB) ⟨rl, vl, rfl, ml, LH.same.symm.trans (cpre_whole los his he) ▸ hlo⟩ (kp _ _ (by decide) (by decide) eBi) fun p hp => hp
  · obtain ⟨hc, ⟨l, vs, e, ml, hvs⟩, ha, sub⟩ := hK
    subst e
    refine go_asg (hL := by rfl) (hl := by rfl) (hp := by rfl) (hs := by rfl) C (.ifexp (r := true) (.val (he := by rfl) truth_bool (.loc (hL := by rfl) (hk := by rfl) (hl := by rfl) (hd := by decide) ha rfl)) (es (fun p hp => sub p (s5 p hp)) rfl rfl rfl)) fun v m2 h2 tk2 hv C2 e2 kp => ?_
    exact go_ret C2 (P := IsS (wayOf (cpre (wordsOf n) (wordsOf q)))) (.binR (op_adds (cpre_fits n q)) (.loc (hL := by rfl) (hk := by rfl) (hl := by rfl) (hd := by decide) e2 hv) (.join (he := by rfl) (hst := by rfl) ml hvs (by decide) (weight_cpre n q) (es (fun p hp => sub p (s5 p hp)) rfl rfl rfl) (.loc (hL := by rfl) (hk := by rfl) (hl := by rfl) (hd := by decide) (kp _ _ (by decide) hc) rfl))) fun v h3 tk3 hv C3 => hR v [] h3 tk3 _ _ C3 (fun p hp => sub p (s5 p (rn p hp))) no_ord ⟨hv, rfl⟩
end
end Mine

namespace Mine
theorem Ok.start {w : World} {e : Env} {base h : Heap} {L : Addr} {loose : List Str} {mean : ExcName → Option Value} {mg mb : Str → Option Value} (X : (hd0183.heap_39 w.params).In h) (T : Top hd0183.view_39 loose mean mg mb h) (B : Below callerA base [] h) (hf : e.frame = some L) (hk : e.scope.kind = .function) : Ok ⟨w, callerA.deeper e, h, L⟩ 4 :=
  ⟨X, ⟨_, _, _, _, T⟩, ⟨callerA, base, e, [], B, Around.frames_deeper rfl, hf, hk⟩, rfl, by show callerA.depth + 1 + 4 < _; decide, by show callerA.units + 3 + 16 * 4 < _; decide⟩
theorem z_meets {n q : Nat} (h1 : n < 4096) (h2 : q < 4096) {nw tl : List (Addr × Obj)} {v : Value} (h : NewL (StrsAre · [wayN n, wayN q]) v tl) : Dz 3 165 [v] (tl ++ nw) (fun r tl => IsS (meetOf n q) r ∧ tl = []) :=
  meet_law h1 h2 ▸ z_common n q _ h1 h2 [v] ⟨v, rfl, newl_row h⟩
theorem z_turn {n : Nat} (h1 : n < 4096) {nw tl : List (Addr × Obj)} {v : Value} (h : NewL (StrsAre · [wayN n, wayN (4095 - n)]) v tl) : Dz 3 165 [v] (tl ++ nw) (fun r tl => IsS slash r ∧ tl = []) := by
  have z := z_common n (4095 - n) (tl ++ nw) h1 (Nat.lt_succ_of_le (Nat.sub_le _ _)) [v] ⟨v, rfl, newl_row h⟩
  rw [turned_root h1, wayOf_nil] at z
  exact z
theorem go_law {w : World} {e : Env} {base h₀ h : Heap} {L : Addr} {loose : List Str} {mean : ExcName → Option Value} {mg mb : Str → Option Value} {m : Str → Option Value} {nw : List (Addr × Obj)} {body : List Stmt} {Q : Flow → Shared → Prop} {E : Value → Shared → Prop} {s : Shared} {tk : Nat} (X : (hd0183.heap_39 w.params).In h₀) (T : Top hd0183.view_39 loose mean mg mb h₀) (B : Below callerA base [] h₀) (F : Fr h₀ L h m) (N : News h₀ L h nw)
    (hQ : ∀ h' tk' m', Fr h₀ L h' m' → Q (.ret (.bool true)) { s with heap := h', toks := tk' })
    (k : ∀ c R, c.h₀ = h₀ → c.L = L → Ok c 4 → Cur c m nw h → (∀ h' tk' m' nw', Cur c m' nw' h' → R (.ret (.bool true)) { s with heap := h', toks := tk' }) → Go c e body R s h tk) (hf : e.frame = some L) (hk : e.scope.kind = .function) : wpAny (model PR w) (callerA.deeper e) (execs body e) Q E { s with heap := h, toks := tk } :=
  k ⟨w, callerA.deeper e, h₀, L⟩ Q rfl rfl (.start X T B hf hk) ⟨F, N⟩ (fun h' tk' m' nw' C' => hQ h' tk' m' C'.F) E
theorem d_octets : Gd (Str.ofString "_law_octets") 191 := fun _ => ⟨by kernel_rfl, by kernel_rfl⟩
theorem d_b64 : Gd (Str.ofString "b64encode") 59 := fun _ => ⟨by kernel_rfl, by kernel_rfl⟩
theorem d_read : Gd (Str.ofString "_law_read") 196 := fun _ => ⟨by kernel_rfl, by kernel_rfl⟩
theorem d_way : Gd (Str.ofString "_law_way") 203 := fun _ => ⟨by kernel_rfl, by kernel_rfl⟩
theorem d_split : Gd (Str.ofString "split") 160 := fun _ => ⟨by kernel_rfl, by kernel_rfl⟩
theorem d_common : Gd (Str.ofString "commonpath") 165 := fun _ => ⟨by kernel_rfl, by kernel_rfl⟩
theorem d_meet : Gd (Str.ofString "_law_meet") 208 := fun _ => ⟨by kernel_rfl, by kernel_rfl⟩
theorem z_back {os ms : List Int} (T : Tells os ms) (hl : ms.length ≤ 8) (nw : List (Addr × Obj)) (vs : List Value) (hv : ∃ v, vs = [v] ∧ IsB ((encIdx os os.length).map sg) v) : Dz 2 196 vs nw (NewL (IntsAre · ms)) := by
  have h := z_read (encIdx os os.length) nw (by rw [T.enc]; exact Nat.mul_mod_right ..) (by rw [T.enc]; exact Nat.mul_le_mul_left 2 hl) T.idx vs hv
  rw [T.enc, Nat.mul_div_cancel_left _ (by decide), T.back] at h
  exact h
theorem law_holds : Mine.trow.Holds := hd0183 (by
  k_go0
  (all_goals try k_fold)
  (rename IntsAre _ _ => hI); (rename Heap.IsList _ _ _ => hL); (rename Fr _ _ _ _ => F); (rename News _ _ _ _ => N)
  (rename Frag.In _ _ => X); (rename Top _ _ _ _ _ _ => T); (rename Below _ _ _ _ => B); (rename CellsAre _ _ _ => Y)
  rename Shared => s1
  (rename _ = Data.cell (bindC _ _ _ (Str.ofString "size")) => dz); (rename _ = Data.cell (bindC _ _ _ (Str.ofString "ways")) => dw); (rename _ = Data.cell (bindC _ _ _ (Str.ofString "sets")) => ds)
  rename List Int => ns
  rename (¬ (_ : Int) < _) => hlen
  generalize s1.heap.objs.size = L at F N ⊢
  refine go_law (hf := by rfl) (hk := by rfl) (s := s1) X T B F N (fun h' tk' m' F' => ?_) fun c R e0 e1 O C ret => ?_
  · refine goodW_bool F' (by assumption) (raisesW_false ?_) ?_
    · wrow_none_raised
    · wrow_post
  · clear X T B F N
    subst e1
    rw [← e0] at hL
    clear Y e0
    have h63 : ns.length ≤ 63 := Int.ofNat_le.mp (Int.not_lt.mp hlen)
    have hz6 : (ns.take 6).length ≤ 6 := by rw [List.length_take]; exact Nat.min_le_left ..
    refine go_asgL (hL := by rfl) (hl := by rfl) (hp := by rfl) (hs := by rfl) (T := (IntsAre · (drawnOf ns))) C (.addL (xs := (ns.take 6).map fun x => Int.fmod x 4096) (ys := [1029, 1053]) (by rw [List.length_map]; exact Nat.le_trans (Nat.add_le_add_right hz6 2) (by decide)) (.new (.mapN (hcell := by decide) (hkind := by rfl) (hx := by rfl) (hnames := by decide) (hs := by intro _; rfl) (B := ns.take 6) (cl := []) O (.slice (hs := by intro _ _; with_unfolding_all rfl) (T := (IntsAre · ns)) (j := 6) (fun vs h => h.length ▸ Nat.le_trans h63 (by decide)) ((EvN.of (.var (hL := by rfl) (hk := by rfl) (hl := by rfl) (hd := by decide) rfl)).mono fun v tl q => ⟨_, _, q.1, fun h C => C.F.lst hL, hI⟩) fun _ => .int) (Nat.le_trans hz6 (by decide)) (fun ws h => by
      obtain ⟨us, h1, h2⟩ := h
      have h3 := kmk_upto h1 (y := 6) (by decide)
      rw [← h2] at h3
      exact ⟨h3.length, fun i v e => ints_item h3 e⟩) (fun l k v I oI C oC D ys m₂ hk hq hC hx => .bin (op_mod (by decide)) (.own (hk := by rfl) (hl := by rfl) (hd := by decide) rfl (.tail _ (.head _)) hC hx hq) .int) (by rfl))) fun tl => .new (.listL (.intE (he := by rfl) .int (.intE (he := by rfl) .int .ints0)) fun vs h => by rw [h.length]; decide)) fun ld vd N1 m1 h1 tk1 hd ld1 u1 C1 e1 kp => ?_
    have dn := drawn_len ns
    have x1 : (drawnOf ns).length % 2 ≤ 1 := Nat.le_of_lt_succ (Nat.mod_lt _ (by decide))
    obtain ⟨S, eS, s1', s2, s3⟩ := sets_facts ns
    refine go_asgCL (hc := by rfl) (hk := by rfl) (hx := by rfl) (hs := by rfl) C1 (.addL (xs := drawnOf ns) (ys := (List.replicate ((drawnOf ns).length % 2) [(8 : Int)]).flatten) ?_ (.old ld1 hd (.var (hL := by rfl) (hk := by rfl) (hl := by rfl) (hd := by decide) e1)) fun tl => .newM (.mulL (T := (IntsAre · [8])) (x := (((drawnOf ns).length % 2 : Nat) : Int)) (n := 1) (fun vs h => h.length) (Int.natCast_nonneg _) (Int.ofNat_le.mpr (Nat.le_trans x1 (by decide))) ((Nat.one_mul _).symm ▸ Nat.le_trans x1 (by decide)) (.listL (.intE (he := by rfl) .int .ints0) fun vs h => by rw [h.length]; decide) fun t2 => fmod_two _ ▸ .bin (op_mod (by decide)) (.bi (hk := by rfl) (hx := by rfl) (hg := by rfl) (hb := by rfl) (hd := by decide) (he := by rfl) (hs := by rfl) (hp := by rfl) O g_len (bz_lenL (ld1.imp fun _ h => List.mem_append_right _ (List.mem_append_right _ h)) hd.length (Nat.le_trans dn (by decide))) (.one (hs := by rfl) (.var (hL := by rfl) (hk := by rfl) (hl := by rfl) (hd := by decide) e1))) .int) fun us h => ?_) (u1 _ (.tail _ (.tail _ (.head _)))) ds fun ls vs os N2 h2 tk2 hvs ls2 c2 ds u2 C2 => ?_
    · rw [KM.len_rep]
      exact Nat.le_trans (Nat.add_le_add dn (Nat.mul_le_mul_left 1 x1)) (by decide)
    · obtain ⟨ws, hw, e⟩ := h
      exact e ▸ KM.ints_rep hw _
    replace hvs : IntsAre vs (S.map Nat.cast) := eS ▸ hvs
    have c3 := u2 _ (u1 _ (.tail _ (.head _))) (Or.inl (Nat.succ_ne_self _))
    have c4 := u2 _ (u1 _ (.head _)) (Or.inl (Nat.ne_of_gt (Nat.lt_succ_of_lt (Nat.lt_succ_self _))))
    clear u2 u1 ld1 hd kp e1 x1 dn eS hz6 hL hI hlen h63 C1 C
    have hlS : (S.map (Nat.cast : Nat → Int)).length = S.length := List.length_map ..
    refine go_asgL (hL := by rfl) (hl := by rfl) (hp := by rfl) (hs := by rfl) C2 (.def (hk := by rfl) (hx := by rfl) (hg := by rfl) (hd := by decide) (he := by rfl) (hs := by rfl) (hp := by rfl) (k := 1) (O.le (by decide)) d_octets (.one (hs := by rfl) (.cell (hk := by rfl) (hx := by rfl) (hb := by decide) (P := (· = .ref ls)) rfl c2 ds rfl)) (z_octets ls vs _ _ ls2 hvs (by rw [hlS]; exact Nat.le_trans s1' (by decide)) (by rw [hlS]; exact s2) (sets_in s3))) fun lo vo N3 m3 h3 tk3 ho lo3 u3 C3 e3 kp => ?_
    obtain ⟨os', eo, t1, t2, l3, l4⟩ := codes s1' s2 s3
    rw [eo] at ho
    have i1 := t1.oct
    have i2 := t2.oct
    clear eo
    refine go_asg (hL := by rfl) (hl := by rfl) (hp := by rfl) (hs := by rfl) C3 (.of (.def (hk := by rfl) (hx := by rfl) (hg := by rfl) (hd := by decide) (he := by rfl) (hs := by rfl) (hp := by rfl) (k := 3) (O.le (by decide)) d_b64 (.one (hs := by rfl) (.bytesOf (hk := by rfl) (hx := by rfl) (hg := by rfl) (hb := by rfl) (he := by rfl) (hs := by rfl) O i1 (Nat.le_trans l4 (by decide)) (.old lo3 ho (.var (hL := by rfl) (hk := by rfl) (hl := by rfl) (hd := by decide) e3)))) (z_b64 os' _ l3 l4 i1))) fun v4 m4 h4 tk4 hp C4 e4 kp4 => ?_
    refine go_asg (hL := by rfl) (hl := by rfl) (hp := by rfl) (hs := by rfl) C4 (.of (.def (hk := by rfl) (hx := by rfl) (hg := by rfl) (hd := by decide) (he := by rfl) (hs := by rfl) (hp := by rfl) (k := 3) (O.le (by decide)) d_b64 (.one (hs := by rfl) (.bytesOf (hk := by rfl) (hx := by rfl) (hg := by rfl) (hb := by rfl) (he := by rfl) (hs := by rfl) O i2 (by rw [List.length_map]; exact Nat.le_trans l4 (by decide)) (.new (.mapC (hcell := by decide) (hkind := by rfl) (hx := by rfl) (hnames := by decide) (hs := by intro _; rfl) (B := os') (Rel := IntsAre) (RP := IsI) (Qk := IsI) (cl := []) .nil ints_snoc (src_list O lo3 (.var (hL := by rfl) (hk := by rfl) (hl := by rfl) (hd := by decide) (kp4 _ _ (by decide) e3))) (fun tl => src_S (lo3.imp fun _ h => List.mem_append_right _ h)) ho.length.symm (by rw [ho.length]; exact Nat.le_trans l4 (by decide)) (fun i v _ hv => ints_item ho hv) (fun k v I oI C oC D ys m₂ hk hq hC hx => .bin op_sub .int (.own (hk := by rfl) (hl := by rfl) (hd := by decide) rfl (.tail _ (.head _)) hC hx hq)) (by rfl))))) (z_b64 _ _ (by rw [List.length_map]; exact l3) (by rw [List.length_map]; exact l4) i2))) fun v5 m5 h5 tk5 ht C5 e5 kp => ?_
    have e5p := kp _ _ (by decide) e4
    have hvl := hvs.length.trans hlS
    have h2S : 2 * S.length ≤ 1048576 := Nat.le_trans (Nat.mul_le_mul_left 2 s1') (by decide)
    have hS1 : S.length ≤ 1048576 := Nat.le_trans s1' (by decide)
    have ep1 : ((encIdx os' os'.length).map sg).length = 2 * S.length := by rw [List.length_map, t1.enc, hlS]
    have ep2 : ((encIdx (os'.map fun x => 255 - x) (os'.map fun x => 255 - x).length).map sg).length = 2 * S.length := by rw [List.length_map, t2.enc, List.length_map, hlS]
    refine go_if (b := false) C5 (.as (.parts (.or (.not (.val (he := by rfl) truth_bool (.bi (hk := by rfl) (hx := by rfl) (hg := by rfl) (hb := by rfl) (hd := by decide) (he := by rfl) (hs := by rfl) (hp := by rfl) O g_isinstance bz_isbb (.two (hs := by rfl) (hs' := by rfl) (.loc (hL := by rfl) (hk := by rfl) (hl := by rfl) (hd := by decide) e5p hp) (.bname (hk := by rfl) (hx := by rfl) (hg := by rfl) (hb := by rfl) (hd := by decide) O g_bytes))))) fun _ => .or (.not (.val (he := by rfl) truth_bool (.bi (hk := by rfl) (hx := by rfl) (hg := by rfl) (hb := by rfl) (hd := by decide) (he := by rfl) (hs := by rfl) (hp := by rfl) O g_isinstance bz_isbb (.two (hs := by rfl) (hs' := by rfl) (.loc (hL := by rfl) (hk := by rfl) (hl := by rfl) (hd := by decide) e5 ht) (.bname (hk := by rfl) (hx := by rfl) (hg := by rfl) (hb := by rfl) (hd := by decide) O g_bytes))))) fun _ => .or (.cmp (hm := by with_unfolding_all rfl) cmp_ne (.bin op_add (.bi (hk := by rfl) (hx := by rfl) (hg := by rfl) (hb := by rfl) (hd := by decide) (he := by rfl) (hs := by rfl) (hp := by rfl) O g_len (bz_lenb ep1 h2S) (.one (hs := by rfl) (.loc (hL := by rfl) (hk := by rfl) (hl := by rfl) (hd := by decide) e5p hp))) (.bi (hk := by rfl) (hx := by rfl) (hg := by rfl) (hb := by rfl) (hd := by decide) (he := by rfl) (hs := by rfl) (hp := by rfl) O g_len (bz_lenb ep2 h2S) (.one (hs := by rfl) (.loc (hL := by rfl) (hk := by rfl) (hl := by rfl) (hd := by decide) e5 ht)))) (.bin (op_mul (mul_ok (by decide))) .int (.bi (hk := by rfl) (hx := by rfl) (hg := by rfl) (hb := by rfl) (hd := by decide) (he := by rfl) (hs := by rfl) (hp := by rfl) O g_len (bz_lenL (ls2.imp fun _ h => u3 _ h) hvl hS1) (.one (hs := by rfl) (.cell (hk := by rfl) (hx := by rfl) (hb := by decide) rfl (u3 _ c2) ds rfl))))) fun _ => .or_nil)) ?_) fun h6 tk6 C6 => Then.nil ?_
    · have e : ((2 * S.length : Nat) : Int) + ((2 * S.length : Nat) : Int) = 4 * (S.length : Int) := congrArg Nat.cast (Nat.add_mul 2 2 S.length).symm
      rw [e, bne_self_eq_false]
      rfl
    have hzS : (S.map (Nat.cast : Nat → Int)).length + ((S.map (Nat.cast : Nat → Int)).map fun n => 4095 - n).length ≤ sizeLine := by
      rw [hlS, List.length_map, hlS]
      exact Nat.le_trans (Nat.add_le_add s1' s1') (by decide)
    refine go_asgL (hL := by rfl) (hl := by rfl) (hp := by rfl) (hs := by rfl) C6 (.addL hzS (.new (.def (hk := by rfl) (hx := by rfl) (hg := by rfl) (hd := by decide) (he := by rfl) (hs := by rfl) (hp := by rfl) (k := 2) (O.le (by decide)) d_read (.one (hs := by rfl) (.loc (hL := by rfl) (hk := by rfl) (hl := by rfl) (hd := by decide) e5p hp)) (z_back t1 (by rw [hlS]; exact s1') _))) fun tl => .new (.def (hk := by rfl) (hx := by rfl) (hg := by rfl) (hd := by decide) (he := by rfl) (hs := by rfl) (hp := by rfl) (k := 2) (O.le (by decide)) d_read (.one (hs := by rfl) (.loc (hL := by rfl) (hk := by rfl) (hl := by rfl) (hd := by decide) e5 ht)) (z_back t2 (by rw [List.length_map, hlS]; exact s1') _))) fun lb vb N4 m7 h7 tk7 hb lb4 u4 C7 e7 kp => ?_
    have up : ∀ p ∈ N2, p ∈ N4 := fun p hp => u4 _ (u3 _ hp)
    clear kp kp4 e5 e5p hp ht t1 t2 l3 l4 i1 i2 ep1 ep2 u3 u4 lo3 ho e3 e4 C3 C4 C5 C6 C2
    refine go_if (b := false) C7 (.neD (hm := by with_unfolding_all rfl) O (kok_ints _) (.dat (.old lb4 hb (.var (hL := by rfl) (hk := by rfl) (hl := by rfl) (hd := by decide) e7)) fun vs nw h => dats_ints h) fun tl => .dat (.new (.addL hzS (.old (ls2.imp fun _ h => List.mem_append_right _ (up _ h)) hvs (.cell (hk := by rfl) (hx := by rfl) (hb := by decide) rfl (List.mem_append_right _ (up _ c2)) ds rfl)) fun t2 => .new (.mapC (hcell := by decide) (hkind := by rfl) (hx := by rfl) (hnames := by decide) (hs := by intro _; rfl) (B := S.map Nat.cast) (Rel := IntsAre) (RP := IsI) (Qk := IsI) (cl := []) .nil ints_snoc (src_list O (ls2.imp fun _ h => List.mem_append_right _ (List.mem_append_right _ (up _ h))) (.cell (hk := by rfl) (hx := by rfl) (hb := by decide) rfl (List.mem_append_right _ (List.mem_append_right _ (up _ c2))) ds rfl)) (fun t3 => src_S (ls2.imp fun _ h => List.mem_append_right _ (List.mem_append_right _ (List.mem_append_right _ (up _ h))))) (hlS.trans hvl.symm) (hvl ▸ Nat.le_trans s1' (by decide)) (fun i v _ hv => ints_item hvs hv) (fun k v I oI C oC D ys m₂ hk hq hC hx => .bin op_sub .int (.own (hk := by rfl) (hl := by rfl) (hd := by decide) rfl (.tail _ (.head _)) hC hx hq)) (by rfl)))) fun vs nw h => dats_ints h) fun h8 tk8 C8 => Then.nil ?_
    rw [both_cast s3] at hb
    have hlt := both_lt s3
    have hbl := hb.length
    rw [List.length_map] at hbl
    have hz := both_len S
    have hzB : (bothOf S).length ≤ sizeLine := hz ▸ Nat.le_trans h2S (by decide)
    refine go_asgCL (hc := by rfl) (hk := by rfl) (hx := by rfl) (hs := by rfl) C8 (.mapC (hcell := by decide) (hkind := by rfl) (hx := by rfl) (hnames := by decide) (hs := by intro _; rfl) (B := bothOf S) (f := wayN) (Rel := StrsAre) (RP := IsS) (Qk := fun k => IsI (k : Int)) (cl := []) .nil strs_snoc (src_list O lb4 (.var (hL := by rfl) (hk := by rfl) (hl := by rfl) (hd := by decide) e7)) (fun t => src_S (lb4.imp fun _ h => List.mem_append_right _ h)) hbl.symm (hbl ▸ hzB) (fun i v _ hv => nats_item hb hv) (fun k v I oI C oC D ys m₂ hk hq hC hx => .of (.def (hk := by rfl) (hx := by rfl) (hg := by rfl) (hd := by decide) (he := by rfl) (hs := by rfl) (hp := by rfl) (k := 3) (O.le (by decide)) d_way (.one (hs := by rfl) (.own (hk := by rfl) (hl := by rfl) (hd := by decide) rfl (.tail _ (.head _)) hC hx hq)) (z_way k _ (hlt k hk)))) (by rfl)) (up _ c3) dw fun lw vw ow N9 h9 tk9 hw lw9 c9 dw u9 C9 => ?_
    have lb9 : LAt vb N9 lb := lb4.imp fun _ h => u9 _ h (Or.inr fun _ e => nomatch e)
    have ls9 : LAt vs N9 ls := ls2.imp fun _ h => u9 _ (up _ h) (Or.inr fun _ e => nomatch e)
    have c2 := u9 _ (up _ c2) (Or.inl (Nat.ne_of_lt (Nat.lt_succ_self _)))
    have c4 := u9 _ (up _ c4) (Or.inl (Nat.succ_ne_self _))
    clear u9 up lb4 ls2 C8 C7
    have hwl := hw.length
    rw [List.length_map] at hwl
    refine go_if (b := false) C9 (.neD (hm := by with_unfolding_all rfl) O (kok_strs fun x hx => by obtain ⟨n, _, e⟩ := List.mem_map.mp hx; exact e ▸ ok_wayN n) (.dat (.old lw9 hw (.cell (hk := by rfl) (hx := by rfl) (hb := by decide) rfl c9 dw rfl)) fun vs nw h => dats_strs h) fun tl => .dat (.new (.mapC (hcell := by decide) (hkind := by rfl) (hx := by rfl) (hnames := by decide) (hs := by intro _; rfl) (B := bothOf S) (f := wayN) (Rel := StrsAre) (RP := IsS) (Qk := fun k => IsI (k : Int)) (cl := []) .nil strs_snoc (src_list O (lb9.imp fun _ h => List.mem_append_right _ h) (.var (hL := by rfl) (hk := by rfl) (hl := by rfl) (hd := by decide) e7)) (fun t => src_S (lb9.imp fun _ h => List.mem_append_right _ (List.mem_append_right _ h))) hbl.symm (hbl ▸ hzB) (fun i v _ hv => nats_item hb hv) (fun k v I oI C oC D ys m₂ hk hq hC hx => .way (h1 := by rfl) (h2 := by rfl) (h3 := by rfl) (he := by rfl) (hs := by rfl) (hj := by rfl) O (by decide) (hlt k hk) (.own (hk := by rfl) (hl := by rfl) (hd := by decide) rfl (.tail _ (.head _)) hC hx hq)) (by rfl))) fun vs nw h => dats_strs h) fun h10 tk10 C10 => Then.nil ?_
    refine go_if (b := false) C10 (.neD (hm := by with_unfolding_all rfl) O (kok_parts hlt) (.mapT (hcell := by decide) (hkind := by rfl) (hx := by rfl) (hnames := by decide) (hs := by intro _; rfl) (B := bothOf S) (f := partsN) (Qk := fun k => IsS (wayN k)) (cl := []) (src_list O lw9 (.cell (hk := by rfl) (hx := by rfl) (hb := by decide) rfl c9 dw rfl)) (fun t => src_S (lw9.imp fun _ h => List.mem_append_right _ h)) hwl.symm (hwl ▸ hzB) (fun i v _ hv => ways_item hw hv) (fun k v I oI C oC D ys tl m₂ hk hq hC hx => (EvN.def (hk := by rfl) (hx := by rfl) (hg := by rfl) (hd := by decide) (he := by rfl) (hs := by rfl) (hp := by rfl) (k := 2) (O.le (by decide)) d_split (.one (hs := by rfl) (.own (hk := by rfl) (hl := by rfl) (hd := by decide) rfl (.tail _ (.head _)) hC hx hq)) (z_split (wayN k) _ (Nat.le_trans (way_len (good_words k) (words_len k)).1 (by decide)))).mono fun y tl' h => ?_) (by rfl)) fun tl => .mapT (hcell := by decide) (hkind := by rfl) (hx := by rfl) (hnames := by decide) (hs := by intro _; rfl) (B := bothOf S) (f := partsN) (Qk := fun k => IsI (k : Int)) (cl := []) (src_list O (lb9.imp fun _ h => List.mem_append_right _ h) (.var (hL := by rfl) (hk := by rfl) (hl := by rfl) (hd := by decide) e7)) (fun t => src_S (lb9.imp fun _ h => List.mem_append_right _ (List.mem_append_right _ h))) hbl.symm (hbl ▸ hzB) (fun i v _ hv => nats_item hb hv) (fun k v I oI C oC D ys tl m₂ hk hq hC hx => (EvN.tuple (.two (hs := by rfl) (hs' := by rfl) (.binR (op_adds (row_fits (last_good k) (last_12 k))) .str (.joinN (he := by rfl) (hst := by rfl) (by decide) (row_weight (last_good k) (last_12 k)) .str ?_)) (.last (hs := by intro _ _; with_unfolding_all rfl) (words_ne (hlt k hk)) (.def (hk := by rfl) (hx := by rfl) (hg := by rfl) (hd := by decide) (he := by rfl) (hs := by rfl) (hp := by rfl) (k := 2) (O.le (by decide)) d_words (.one (hs := by rfl) (.own (hk := by rfl) (hl := by rfl) (hd := by decide) rfl (.tail _ (.head _)) hC hx hq)) (z_words k _ (hlt k hk))) fun _ => .neg .int)) ?_).mono fun y tl' h => parts_dat h) (by rfl)) fun h11 tk11 C11 => Then.nil ?_
    · rw [(split_parts (hlt k hk)).1, (split_parts (hlt k hk)).2] at h
      exact parts_dat h
    · exact (EvN.slice (hs := by intro _ _; with_unfolding_all rfl) (T := (StrsAre · (wordsOf k))) (fun vs h => by rw [h.length]; exact Nat.le_trans (words_len k) (by decide)) (.has (.def (hk := by rfl) (hx := by rfl) (hg := by rfl) (hd := by decide) (he := by rfl) (hs := by rfl) (hp := by rfl) (k := 2) (O.le (by decide)) d_words (.one (hs := by rfl) (.own (hk := by rfl) (hl := by rfl) (hd := by decide) rfl (.tail _ (.head _)) hC hx hq)) (z_words k _ (hlt k hk)))) fun _ => .neg .int).mono fun v tl q2z => by obtain ⟨l, ws, nn, e, e1, vs, h, e2⟩ := q2z; exact ⟨l, ws, nn, e, e1, e2 ▸ drop_last h⟩
    · intro vs ⟨_, _, e, _⟩
      subst e
      exact (show 2 ≤ sizeLine by decide)
    clear C9 C10 e7 hb hbl hlt hz hzB hwl lb9
    refine go_asgC (hc := by rfl) (hk := by rfl) (hx := by rfl) (hs := by rfl) C11 (.of (.bi (hk := by rfl) (hx := by rfl) (hg := by rfl) (hb := by rfl) (hd := by decide) (he := by rfl) (hs := by rfl) (hp := by rfl) O g_len (bz_lenL ls9 hvl hS1) (.one (hs := by rfl) (.cell (hk := by rfl) (hx := by rfl) (hb := by decide) (P := (· = .ref ls)) rfl c2 ds rfl)))) c4 dz fun v tl h12 tk12 N12 hv o C12 st => ?_
    obtain ⟨⟨tz, e⟩, e1⟩ := hv
    subst e e1
    obtain ⟨oz, c4, dz⟩ := st.at'
    have c2 := st.sub _ c2 (Or.inl (Nat.ne_of_lt (Nat.lt_succ_of_lt (Nat.lt_succ_self _))))
    have c9 := st.sub _ c9 (Or.inl (Nat.ne_of_lt (Nat.lt_succ_self _)))
    have ls9 := ls9.sub st
    have lw9 := lw9.sub st
    clear st o C11
    have hzS : S.length ≤ sizeLine := Nat.le_trans s1' (by decide)
    have rg := range_all S.length s1'
    refine go_if (b := false) C12 (.neD (hm := by with_unfolding_all rfl) O (kok_strs (ts := List.replicate S.length slash) fun x hx => by rw [(List.mem_replicate.mp hx).2]; exact ok_slash) (.dat (.newM (.mapC (hcell := by decide) (hkind := by rfl) (hx := by rfl) (hnames := by decide) (hs := by intro _; rfl) (B := S) (f := fun _ => slash) (Rel := StrsAre) (RP := IsS) (Qk := fun x v => ∃ i : Nat, S[i]? = some x ∧ IsI (i : Int) v) (cl := [(Str.ofString "ways", c.L + 1 + 1), (Str.ofString "size", c.L + 1 + 1 + 1)]) .nil strs_snoc (src_range (hk := by rfl) (hx := by rfl) (hg := by rfl) (hb := by rfl) (he := by rfl) (hs := by rfl) O g_range (.cell (hk := by rfl) (hx := by rfl) (hb := by decide) (P := IsI S.length) rfl c4 dz ⟨tz, rfl⟩) rg.1 rg.2) (fun _ => trivial) rfl hzS (fun i v hi hv => ⟨S[i], List.getElem?_eq_getElem hi, i, List.getElem?_eq_getElem hi, ix_z hv⟩) (fun k v I oI C oC D ys m₂ hk hq hC hx => ?_) (by rfl)) fun vs h => by rw [List.map_const'] at h; exact h) fun vs nw h => dats_strs h) fun tl => .dat (.newM (.mulL (T := (StrsAre · [slash])) (x := (S.length : Int)) (n := 1) (fun vs h => h.length) (Int.natCast_nonneg _) (Int.ofNat_le.mpr (Nat.le_trans s1' (by decide))) ((Nat.one_mul _).symm ▸ Nat.le_trans s1' (by decide)) (.listL (.str .strs0) fun vs h => by rw [h.length]; decide) fun t2 => .cell (hk := by rfl) (hx := by rfl) (hb := by decide) (P := IsI S.length) rfl (List.mem_append_right _ (List.mem_append_right _ c4)) dz ⟨tz, rfl⟩) fun us h => ?_) fun vs nw h => dats_strs h) fun h13 tk13 C13 => Then.nil ?_
    · obtain ⟨i, hi, hq⟩ := hq
      have hil := (List.getElem?_eq_some_iff.mp hi).1
      have hxb := s3 k hk
      refine .of (.defN (hk := by rfl) (hx := by rfl) (hg := by rfl) (hd := by decide) (he := by rfl) (hs := by rfl) (k := 3) (O.le (by decide)) d_common (.listL (.strE (he := by rfl) (.strs (hs := by intro _ _ _; with_unfolding_all rfl) (j := (i : Int)) (lw9.imp fun _ h => .tail _ (.tail _ (.tail _ h))) hw (Int.natCast_nonneg i) (Int.ofNat_lt.mpr (Nat.lt_of_lt_of_le hil hS1)) (both_at hi).1 (.cell (hk := by rfl) (hx := by rfl) (hb := by decide) rfl (.tail _ (.tail _ (.tail _ c9))) dw rfl) (.own (hk := by rfl) (hl := by rfl) (hd := by decide) rfl (.tail _ (.head _)) hC hx hq)) (.strE (he := by rfl) (.strs (hs := by intro _ _ _; with_unfolding_all rfl) (j := (S.length : Int) + (i : Int)) (lw9.imp fun _ h => .tail _ (.tail _ (.tail _ h))) hw (Int.natCast_nonneg (S.length + i)) (Int.ofNat_lt.mpr (Nat.lt_of_lt_of_le (Nat.add_lt_add_left hil _) (Nat.two_mul S.length ▸ h2S))) (both_at hi).2 (.cell (hk := by rfl) (hx := by rfl) (hb := by decide) rfl (.tail _ (.tail _ (.tail _ c9))) dw rfl) (.bin op_add (.cell (hk := by rfl) (hx := by rfl) (hb := by decide) (P := IsI S.length) rfl (.tail _ (.tail _ (.tail _ c4))) dz ⟨tz, rfl⟩) (.own (hk := by rfl) (hl := by rfl) (hd := by decide) rfl (.tail _ (.head _)) hC hx hq)))   .strs0)) fun vs h => h.length ▸ (show 2 ≤ sizeLine by decide)) fun v tl h => z_turn hxb h)
    · obtain ⟨ws, h, e⟩ := h
      rw [e, Int.toNat_natCast]
      exact strs_rep h _
    clear C12
    refine go_two (hcell := by decide) (hkind := by rfl) (hx₁ := by rfl) (hx₂ := by rfl) (hxx := by decide) (hnames := by decide) (hs := by intro _; rfl) (hs₂ := by intro _ _; rfl) (hL := by rfl) (hl := by rfl) (hp := by rfl) (hsw := by rfl) C13 (n₂ := fun i => i) (P₂ := fun _ j => IsI (0 + (j : Int) * 1)) (K := fun i j ys tl => PairsAre tl ys (pairsOf i ++ (List.range j).map fun j => (j, i))) (cl := []) (src_range (hk := by rfl) (hx := by rfl) (hg := by rfl) (hb := by rfl) (he := by rfl) (hs := by rfl) O g_range (.cell (hk := by rfl) (hx := by rfl) (hb := by decide) (P := IsI S.length) rfl c4 dz ⟨tz, rfl⟩) rg.1 rg.2) ⟨rfl, fun i v e => nomatch e⟩ (fun i ys tl h => ?_) (fun i j ys tl hi hj h => ?_) (fun i v ys tl I oI C oC D m₂ hi hv hC hx => src_range (hk := by rfl) (hx := by rfl) (hg := by rfl) (hb := by rfl) (he := by rfl) (hs := by rfl) O g_range (.own (hk := by rfl) (hl := by rfl) (hd := by decide) rfl (.tail _ (.head _)) hC hx (ix_z hv)) (range_all i (Nat.le_trans (Nat.le_of_lt hi) s1')).1 (range_all i (Nat.le_trans (Nat.le_of_lt hi) s1')).2) (fun i v₁ j v₂ ys tl I₂ oI₂ I oI C oC D m₂ hi hv hj hv2 hK hC e1 e2 => (EvN.tuple (.two (hs := by rfl) (hs' := by rfl) (.own (hk := by rfl) (hl := by rfl) (hd := by decide) rfl (.tail _ (.tail _ (.head _))) hC e2 (ix_z hv2)) (.own (hk := by rfl) (hl := by rfl) (hd := by decide) rfl (.tail _ (.tail _ (.head _))) hC e1 (ix_z hv))) ?_).mono fun y tl' h => ?_) (fun D ys tl m' h14 tk14 hK C14 ep kp => ?_) (by rfl)
    · show PairsAre tl ys (pairsOf (i + 1) ++ [])
      rw [List.append_nil, pairs_succ]
      exact h
    · have hi8 := Nat.le_trans (Nat.le_of_lt hi) s1'
      rw [h.1, List.length_append, List.length_map, List.length_range]
      exact Nat.le_trans (Nat.add_le_add (pairs_len i hi8) (Nat.le_trans (Nat.le_of_lt hj) hi8)) (by decide)
    · intro vs ⟨_, _, e, _⟩
      subst e
      exact (show 2 ≤ sizeLine by decide)
    · obtain ⟨t, vs, e, e1, v, u, e2, h1, h2⟩ := h
      subst e e1 e2
      rw [List.range_succ, List.map_append, ← List.append_assoc]
      exact hK.snoc (fun p hp => .tail _ hp) ⟨t, v, u, rfl, .head _, h1, h2⟩
    have hP : PairsAre ((D, LCg.lst ys) :: (tl ++ N12)) ys (pairsOf S.length) := by
      rw [show (List.range 0).map (fun j => (j, S.length)) = [] from rfl, List.append_nil] at hK
      exact ⟨hK.1, fun i v e => (hK.2 i v e).imp fun p h => ⟨h.1, h.2.sub fun p hp => .tail _ (List.mem_append_left _ hp)⟩⟩
    have up : ∀ p ∈ N12, p ∈ (D, LCg.lst ys) :: (tl ++ N12) := fun p hp => .tail _ (List.mem_append_right _ hp)
    have lD : LAt ys ((D, LCg.lst ys) :: (tl ++ N12)) D := ⟨_, .head _⟩
    have hpz : (pairsOf S.length).length ≤ sizeLine := Nat.le_trans (pairs_len _ s1') (by decide)
    generalize (D, LCg.lst ys) :: (tl ++ N12) = N at hP up lD C14
    clear hK kp C13
    have c9 := up _ c9
    have c2 := up _ c2
    have lw9 := lw9.imp fun _ h => up _ h
    have ls9 := ls9.imp fun _ h => up _ h
    clear up c4 dz hvl
    refine go_ret C14 (.eqD (hm := by with_unfolding_all rfl) O (kok_strs (ts := (pairsOf S.length).map (meetP S)) fun x hx => by obtain ⟨p, _, e⟩ := List.mem_map.mp hx; exact e ▸ ok_meet _ _) (.dat (.new (.pairC (hcell := by decide) (hkind := by rfl) (hx := by rfl) (hx₂ := by rfl) (hxx := by decide) (hnames := by decide) (hs := by intro _; rfl) (cl := [(Str.ofString "ways", c.L + 1 + 1)]) O lD hP hpz (.var (hL := by rfl) (hk := by rfl) (hl := by rfl) (hd := by decide) ep) (fun p v₁ v₂ I oI C oC D ys m₂ hp h1 h2 hC e1 e2 => ?_) (by rfl))) fun vs nw h => dats_strs h) fun tl => .dat (.new (.pairC (hcell := by decide) (hkind := by rfl) (hx := by rfl) (hx₂ := by rfl) (hxx := by decide) (hnames := by decide) (hs := by intro _; rfl) (cl := [(Str.ofString "sets", c.L + 1)]) O (lD.imp fun _ h => List.mem_append_right _ h) ⟨hP.1, fun i v e => (hP.2 i v e).imp fun p h => ⟨h.1, h.2.sub fun p hp => List.mem_append_right _ hp⟩⟩ hpz (.var (hL := by rfl) (hk := by rfl) (hl := by rfl) (hd := by decide) ep) (fun p v₁ v₂ I oI C oC D ys m₂ hp h1 h2 hC e1 e2 => ?_) (by rfl))) fun vs nw h => dats_strs h) fun v h15 tk15 e C15 => by rw [e]; exact ret _ _ _ _ C15
    · obtain ⟨hj, hk⟩ := pairs_lt hp
      have w1 := s3 _ (List.mem_of_getElem? (at_getD hj))
      have w2 := s3 _ (List.mem_of_getElem? (at_getD hk))
      refine .of (.defN (hk := by rfl) (hx := by rfl) (hg := by rfl) (hd := by decide) (he := by rfl) (hs := by rfl) (k := 3) (O.le (by decide)) d_common (.listL (.strE (he := by rfl) (.strs (hs := by intro _ _ _; with_unfolding_all rfl) (j := (p.1 : Int)) (lw9.imp fun _ h => .tail _ (.tail _ (.tail _ h))) hw (Int.natCast_nonneg _) (Int.ofNat_lt.mpr (Nat.lt_of_lt_of_le hj hS1)) (both_at (at_getD hj)).1 (.cell (hk := by rfl) (hx := by rfl) (hb := by decide) rfl (.tail _ (.tail _ (.tail _ c9))) dw rfl) (.own (hk := by rfl) (hl := by rfl) (hd := by decide) rfl (.tail _ (.head _)) hC e1 h1)) (.strE (he := by rfl) (.strs (hs := by intro _ _ _; with_unfolding_all rfl) (j := (p.2 : Int)) (lw9.imp fun _ h => .tail _ (.tail _ (.tail _ h))) hw (Int.natCast_nonneg _) (Int.ofNat_lt.mpr (Nat.lt_of_lt_of_le hk hS1)) (both_at (at_getD hk)).1 (.cell (hk := by rfl) (hx := by rfl) (hb := by decide) rfl (.tail _ (.tail _ (.tail _ c9))) dw rfl) (.own (hk := by rfl) (hl := by rfl) (hd := by decide) rfl (.tail _ (.head _)) hC e2 h2)) .strs0)) fun vs h => h.length ▸ (show 2 ≤ sizeLine by decide)) fun v tl h => z_meets w1 w2 h)
    · obtain ⟨hj, hk⟩ := pairs_lt hp
      have w1 := s3 _ (List.mem_of_getElem? (at_getD hj))
      have w2 := s3 _ (List.mem_of_getElem? (at_getD hk))
      exact .of (.def (hk := by rfl) (hx := by rfl) (hg := by rfl) (hd := by decide) (he := by rfl) (hs := by rfl) (hp := by rfl) (k := 3) (O.le (by decide)) d_meet (.two (hs := by rfl) (hs' := by rfl) (.nats (hs := by intro _ _ _; with_unfolding_all rfl) (ls9.imp fun _ h => .tail _ (.tail _ (.tail _ (List.mem_append_right _ h)))) hvs hj (Nat.lt_of_lt_of_le hj hS1) (.cell (hk := by rfl) (hx := by rfl) (hb := by decide) rfl (.tail _ (.tail _ (.tail _ (List.mem_append_right _ c2)))) ds rfl) (.own (hk := by rfl) (hl := by rfl) (hd := by decide) rfl (.tail _ (.head _)) hC e1 h1)) (.nats (hs := by intro _ _ _; with_unfolding_all rfl) (ls9.imp fun _ h => .tail _ (.tail _ (.tail _ (List.mem_append_right _ h)))) hvs hk (Nat.lt_of_lt_of_le hk hS1) (.cell (hk := by rfl) (hx := by rfl) (hb := by decide) rfl (.tail _ (.tail _ (.tail _ (List.mem_append_right _ c2)))) ds rfl) (.own (hk := by rfl) (hl := by rfl) (hd := by decide) rfl (.tail _ (.head _)) hC e2 h2))) (z_meet _ _ _ w1 w2)))
end Mine
theorem PySem.Challenge.cw_pd0183_01_holds : PySem.Challenge.rw_pd0183_01.Holds := by
  rw [Mine.trow_eq]
  exact Mine.law_holds
