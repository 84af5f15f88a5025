import PyProof.Rows.All
import Wide.All
import OpenK.AllK
import Wide.FinOn
import PySem.Challenge.RW_we0022_01
open PySem PySem.W PyProof.Rows PySem.Calls PySem.Spec
set_option Elab.async false
set_option maxRecDepth 100000
set_option maxHeartbeats 0
namespace Mine
open_top hd for PySem.Challenge.rw_we0022_01
section
theorem off_P0 : True := by
  w_top off
  trivial
-- base: words, regex rules
def upL (i : Nat) : Str := ⟨#[65 + i]⟩
def loL (i : Nat) : Str := ⟨#[97 + i]⟩
abbrev numS (n : Int) : Str := Str.ofString (toString n)
noncomputable abbrev LS : List Str := looseW hd.view_39 [Str.ofString "_name_disallowed_re", Str.ofString "_value_disallowed_re"]
def srch (w : World) (a : Addr) (x : Str) : Prop := ∀ t, peek (hd.heap_39 w.params) ⟨PySem.Challenge.rw_we0022_01.row.prog, w.params⟩ (Builtin.«re.Pattern.search» ⟨[.ref a, .str x t], []⟩) = some (.done (.ret .none))
theorem slot_search : Slot "re.Pattern" "search" "re.Pattern.search" :=
  .of (owner := "re.Pattern") (n := "search") (by rw [typeLookup_type, builtinLookup_eq_fast]; kernel_rfl) (by decide +kernel) (by decide +kernel) (by decide +kernel)
    (by first | exact .inl (by decide +kernel) | exact .inr (by decide +kernel)) (by rw [isSubtype_type]; kernel_rfl)
theorem type_search : typeOf (.builtin "re.Pattern.search") = pure (.type "method_descriptor") := by show builtinType _ = _; rw [builtinType_eq_fast]; kernel_rfl
theorem entry_search : entryFor table "re.Pattern.search" = some Builtin.«re.Pattern.search» := entryFor_of_tree (by kernel_rfl)
theorem args_search (a b : Value) : argsOk "re.Pattern.search" ⟨[a, b], []⟩ := by
  unfold argsOk; kernel_rfl
theorem plain_search : PlainAttrs "re.Pattern" :=
  ⟨⟨"object.__getattribute__", by rw [typeLookup_type, builtinLookup_eq_fast]; kernel_rfl, by decide +kernel⟩, by rw [typeLookup_type, builtinLookup_eq_fast]; kernel_rfl⟩
theorem srch_lo (w : World) : ∀ i, i < 12 → srch w 64 (loL i)
  | 0, _ => fun t => by kernel_rfl
  | 1, _ => fun t => by kernel_rfl
  | 2, _ => fun t => by kernel_rfl
  | 3, _ => fun t => by kernel_rfl
  | 4, _ => fun t => by kernel_rfl
  | 5, _ => fun t => by kernel_rfl
  | 6, _ => fun t => by kernel_rfl
  | 7, _ => fun t => by kernel_rfl
  | 8, _ => fun t => by kernel_rfl
  | 9, _ => fun t => by kernel_rfl
  | 10, _ => fun t => by kernel_rfl
  | 11, _ => fun t => by kernel_rfl
  | n + 12, h => absurd h (by omega)
theorem srch_num (w : World) : ∀ n : Nat, 1 ≤ n → n ≤ 12 → srch w 69 (numS n)
  | 0, h, _ => absurd h (by omega)
  | 1, _, _ => fun t => by kernel_rfl
  | 2, _, _ => fun t => by kernel_rfl
  | 3, _, _ => fun t => by kernel_rfl
  | 4, _, _ => fun t => by kernel_rfl
  | 5, _, _ => fun t => by kernel_rfl
  | 6, _, _ => fun t => by kernel_rfl
  | 7, _, _ => fun t => by kernel_rfl
  | 8, _, _ => fun t => by kernel_rfl
  | 9, _, _ => fun t => by kernel_rfl
  | 10, _, _ => fun t => by kernel_rfl
  | 11, _, _ => fun t => by kernel_rfl
  | 12, _, _ => fun t => by kernel_rfl
  | n + 13, _, h => absurd h (by omega)
theorem low_up : ∀ i, i < 12 → PySem.Txt.lower (upL i) = loL i := by decide +kernel
theorem low_lo : ∀ i, i < 12 → PySem.Txt.lower (loL i) = loL i := by decide +kernel
theorem lo_inj {i j : Nat} (h : loL i = loL j) : i = j := by
  have h1 : (loL i).cps = (loL j).cps := by rw [h]
  have h2 : #[97 + i] = #[97 + j] := h1
  simp only [Array.mk.injEq, List.cons.injEq, and_true] at h2
  omega
section
variable {prog : Program} {w : World} {A : Around} {E : Value → Shared → Prop} {s : Shared} {Q : Value → Shared → Prop}
theorem pat_type {h : Heap} (X : (hd.heap_39 w.params).In h) {a : Addr} (ha : a = 64 ∨ a = 69) : ∃ o, h.get? a = some o ∧ o.cls = .type "re.Pattern" ∧ o.dict = none := by
  rcases ha with rfl | rfl
  · exact ⟨_, X 64 _ rfl, rfl, rfl⟩
  · exact ⟨_, X 69 _ rfl, rfl, rfl⟩
theorem search_none {a : Addr} {x : Str} {t : Tok} (X : (hd.heap_39 w.params).In s.heap) (ha : a = 64 ∨ a = 69) (hp : srch w a x) (h : Q .none s) :
    wpAny (model PySem.Challenge.rw_we0022_01.row.prog w) A (call (.builtin "re.Pattern.search") [.ref a, .str x t]) Q E s := by
  obtain ⟨o, ho, hc, _⟩ := pat_type X ha
  refine wpAny_call_entry slot_search ⟨o, ho, hc⟩ entry_search ?_ (args_search _ _)
  exact (Looks.of_peek X (hp t)) _ _ _ _ (fun _ _ e => e) ⟨_, rfl, h⟩
theorem search_meth {a : Addr} {pl : Sem Bool} {Q : Value × List Value → Shared → Prop} (X : (hd.heap_39 w.params).In s.heap) (ha : a = 64 ∨ a = 69) (h : Q (.builtin "re.Pattern.search", [.ref a]) s) :
    wpAny (model prog w) A (getMethod (.ref a) (Str.ofString "search") pl) Q E s := by
  obtain ⟨o, ho, hc, hdd⟩ := pat_type X ha
  refine getMethod_builtin ⟨o, ho, hc⟩ plain_search slot_search type_search (fun b e => ?_) h
  cases e
  exact ⟨o, ho, hdd⟩
theorem lower_to {x y : Str} {t : Tok} (hl : PySem.Txt.lower x = y) (hn : x.length ≤ 100) (h : ∀ t' k, Q (.str y t') { s with toks := k }) :
    wpAny (model prog w) A (call (.builtin "str.lower") [.str x t]) Q E s := by
  refine SCL.lower (Nat.le_trans hn (by decide)) fun _ => ?_
  rw [hl]
  exact h _ _
end
section
variable {prog : Program} {w : World} {A : Around} {E : Value → Shared → Prop} {s : Shared} {env : Env} {h₀ : Heap} {target : Expr} {body : List Stmt} {Q : Flow → Shared → Prop} {P : Nat → Value → Prop} {fp : List Addr}
theorem agree_eq (st : List Str) {m₀ m₂ : Str → Option Value} (h : ∀ y, st.contains y = false → m₂ y = m₀ y) : m₂ = fun y => if st.contains y then m₂ y else m₀ y := by
  funext y
  cases hy : st.contains y with
  | true => simp
  | false => simp [h y hy]
-- a loop that leaves the ledger as it was: by what holds ahead of each turn
theorem unr_ind (st : List Str) (Pi : Nat → Prop) {n : Nat} {m₀ : Str → Option Value} {news : List (Addr × Obj)} (h0 : Pi 0)
    (turn : ∀ i (u : Str → Option Value), i < n → Pi i → ∀ v h₁ tk₁ own, P i v → (∀ p ∈ own, p.1 ∈ fp) → Fr h₀ env.locals h₁ (fun y => if st.contains y then u y else m₀ y) → News h₀ env.locals h₁ (own ++ news) →
      wpAny (model prog w) A (assign target env v) (fun _ s₂ => wpAny (model prog w) A (execs body env)
        (LoopStep3 h₀ env.locals own news (fun m₂ n₂ => n₂ = news ∧ (∀ y, st.contains y = false → m₂ y = m₀ y) ∧ Pi (i + 1)) { s with heap := h₁, toks := tk₁ } (fun v s' => Q (.ret v) s') fun s' => Q .next s') E s₂) E { s with heap := h₁, toks := tk₁ })
    (done : ∀ (u : Str → Option Value) h' tk, Pi n → Fr h₀ env.locals h' (fun y => if st.contains y then u y else m₀ y) → News h₀ env.locals h' news → Q .next { s with heap := h', toks := tk }) :
    Unr prog w A E h₀ env target body Q P fp s n 0 m₀ news := by
  have key : ∀ k i (u : Str → Option Value), i + k = n → Pi i → Unr prog w A E h₀ env target body Q P fp s k i (fun y => if st.contains y then u y else m₀ y) news := by
    intro k
    induction k with
    | zero =>
      intro i u hi hp
      have : i = n := by omega
      subst this
      exact Unr.zero fun h' tk F N => done u h' tk hp F N
    | succ k ih =>
      intro i u hi hp
      refine Unr.succ fun v h₁ tk₁ own a b c d => ?_
      refine wpAny_mono (turn i u (by omega) hp v h₁ tk₁ own a b c d) (fun _ s₂ h₂ => wpAny_mono h₂ (fun f s₃ h₃ => ?_) fun _ _ e => e) fun _ _ e => e
      cases f with
      | ret v => exact h₃
      | brk => exact h₃
      | cont =>
        obtain ⟨e0, h₃', tk₃, m₂, news₂, e1, F₃, N₃, ha₃, rfl, hag, hpi⟩ := h₃
        refine ⟨e0, h₃', tk₃, m₂, news₂, e1, F₃, N₃, ha₃, ?_⟩
        rw [agree_eq st hag]
        exact ih (i + 1) m₂ (by omega) hpi
      | next =>
        obtain ⟨e0, h₃', tk₃, m₂, news₂, e1, F₃, N₃, ha₃, rfl, hag, hpi⟩ := h₃
        refine ⟨e0, h₃', tk₃, m₂, news₂, e1, F₃, N₃, ha₃, ?_⟩
        rw [agree_eq st hag]
        exact ih (i + 1) m₂ (by omega) hpi
  have := key n 0 m₀ (by omega) h0
  rw [← agree_eq st fun _ _ => rfl] at this
  exact this
theorem news_list {L l : Addr} {h : Heap} {news : List (Addr × Obj)} {its : Array Value} {n : Nat} (N : News h₀ L h news) (hm : (l, listOf its n) ∈ news) : h.IsList l its := ⟨_, (N _ hm).1, rfl, n, rfl⟩
end
theorem dat_pair {news : List (Addr × Obj)} {v : Value} {x y : Str} (h : DatIn news v (Dat.tuple [Dat.str x, Dat.str y])) :
    ∃ a n t u, v = .ref a ∧ (a, ({ cls := .type "tuple", data := .seq [Value.str x t, Value.str y u].toArray n } : Obj)) ∈ news := by
  cases h with
  | tuple hm hd =>
    cases hd with
    | cons h1 r =>
      cases h1
      cases r with
      | cons h2 r2 =>
        cases h2
        cases r2
        exact ⟨_, _, _, _, rfl, hm⟩
theorem agree_step {st : List Str} {x : Str} {c r z : Option Value} {y : Str} [Decidable (y = x)] (hy : st.contains y = false) (hx : st.contains x = true) (h : r = z) : (if y = x then c else r) = z := by
  by_cases e : y = x
  · subst e; rw [hx] at hy; cases hy
  · rw [if_neg e]; exact h
theorem agree_base {st : List Str} {u z : Option Value} {y : Str} [Decidable (st.contains y = true)] (hy : st.contains y = false) : (if st.contains y = true then u else z) = z := by
  rw [if_neg (by rw [hy]; simp)]
theorem mem_of {p : Addr × Obj} {l : List (Addr × Obj)} (h : p ∈ l) : List.Mem p l := h
def RestLt (d : Addr) (rest : List (Addr × Obj)) : Prop := ∀ p ∈ rest, p.1 < d
theorem restLt_of {d : Addr} {rest : List (Addr × Obj)} (h : AllLt d rest) : RestLt d rest := ktn_ltOf h
theorem off_rest {d b : Addr} {rest : List (Addr × Obj)} (h : RestLt d rest) (hb : @LE.le Nat _ d b) : ∀ p ∈ rest, p.1 ≠ b := fun p hp => Nat.ne_of_lt (Nat.lt_of_lt_of_le (h p hp) hb)
def Hold (P : Prop) : Prop := P
theorem Hold.out {P : Prop} (h : Hold P) : P := h
theorem Hold.mk {P : Prop} (h : P) : Hold P := h
def CompAt (prog : Program) (w : World) (A : Around) (E : Value → Shared → Prop) (env : Env) (scope : Scope) (cl : List (Str × Addr)) (x : Str) (ifs : List Expr) (elt : Expr) (p : Value → Bool) (Fv : Value → Value → Prop) (Q : Value → Shared → Prop) (xv : Value) (s₁ : Shared) : Prop :=
  wpAny (model prog w) A (pyIter xv) (fun it s₂ => ∃ I fp wr n P St, it = .ref I ∧ Walks prog w A I fp wr n P St ∧ n ≤ sizeLine ∧ St 0 s₂.heap ∧ (∀ b ∈ fp, b < s₂.heap.objs.size) ∧
      QuietOnC prog w A env scope cl x ifs elt wr P p Fv s₂ ∧
      (∀ D h' tk ys (vs : List Value), s₂.heap.get? D = none → h'.IsList D ys → h'.PlainList D ys → vs.length = n → (∀ j v, vs[j]? = some v → P j v) → Paired Fv (vs.filter p) ys.toList →
        (∀ b o, b ∉ wr → s₂.heap.get? b = some o → h'.get? b = some o) → Q (.ref D) { s₂ with heap := h', toks := tk })) E s₁
section
variable {prog : Program} {w : World} {A : Around} {E : Value → Shared → Prop} {s : Shared} {env : Env} {g : Heap} {Q : Value → Shared → Prop}
theorem comp_rule {elt iter : Expr} {x : Str} {px : Pos} {ifs : List Expr} {scope : Scope} {cl : List (Str × Addr)} {pos : Pos} (p : Value → Bool) (Fv : Value → Value → Prop)
    (hclos : closureFor scope env = pure cl) (hcell : ∀ y ∈ scope.names, y.2 ≠ .cell) (hkind : scope.kind = .function)
    (hnames : ∀ y ∈ scope.names, y.2 = .local → scope.names.lookup y.1 = some .local) (hx : scope.names.lookup x = some .local)
    (hs : ∀ x, foldedSetIterable iter env x = pure x)
    (h : wpAny (model prog w) A (eval iter env) (fun xv s₁ => CompAt prog w A E env scope cl x ifs elt p Fv Q xv s₁) E s) :
    wpAny (model prog w) A (eval (.ListComp elt [⟨.Name x px, iter, ifs, 0⟩] scope pos) env) Q E s :=
  wpAny_ListComp_free p Fv hclos hcell hkind hnames hx h hs
-- what stands while a comprehension's names are laid at C
theorem comp_fr {h₂ h : Heap} {L C : Addr} {wr : List Addr} {m m₃ : Str → Option Value} {x : Str} {v : Value} {news : List (Addr × Obj)} (F : Fr g L h₂ m) (N : News g L h₂ news) (hC : h₂.objs.size ≤ C) (hn : h.Ns C m₃) (hm : m₃ x = some v)
    (hk : ∀ b o, b ∉ wr → h₂.get? b = some o → h.get? b = some o) (hw : ∀ b ∈ wr, h₂.get? b = none) :
    Fr g C h (fun y => if y = x then some v else m₃ y) ∧ News g C h news ∧ Fr g L h m ∧ News g L h news ∧ L < C := by
  have up : ∀ b o, h₂.get? b = some o → h.get? b = some o := fun b o e => hk b o (fun hb => by rw [hw b hb] at e; cases e) e
  have hLC : L < C := Nat.lt_of_lt_of_le F.ns.lt hC
  have e : (fun y => if y = x then some v else m₃ y) = m₃ := by
    funext y
    by_cases hy : y = x
    · subst hy; rw [if_pos rfl, hm]
    · rw [if_neg hy]
  rw [e]
  refine ⟨⟨hn, fun b o e => up b o (F.keep b o e), Nat.le_trans F.above (Nat.le_of_lt hLC)⟩, fun p hp => ⟨up _ _ (N p hp).1, Nat.ne_of_lt (Nat.lt_of_lt_of_le (Heap.lt_size (N p hp).1) hC), (N p hp).2.2⟩, F.keeps up, fun p hp => ⟨up _ _ (N p hp).1, (N p hp).2⟩, hLC⟩
theorem paired_self {α : Type} {l₁ l₂ : List α} (h : Paired (fun a b => b = a) l₁ l₂) : l₂ = l₁ := by
  induction h with
  | nil => rfl
  | cons h _ ih => rw [h, ih]
-- a comprehension over a list that stands: (tests, element) read only
theorem comp_list {scope : Scope} {cl : List (Str × Addr)} {x : Str} {ifs : List Expr} {elt : Expr} {m : Str → Option Value} {news : List (Addr × Obj)} {l : Addr} {items : Array Value} (p : Value → Bool) (Fv : Value → Value → Prop)
    (hh : A.handled = none) (hl : s.heap.IsList l items) (hsz : items.size ≤ sizeLine) (F : Fr g env.locals s.heap m) (N : News g env.locals s.heap news)
    (tests : ∀ C v h tk (u : Str → Option Value) gs dr os E', v ∈ items.toList → Fr g C h (fun y => if y = x then some v else u y) → News g C h news → Fr g env.locals h m → News g env.locals h news → env.locals < C →
      wpAny (model prog w) A (forIn ifs true fun c r => if r = true then do let ok ← isTrue c (compEnvC scope cl C env) (eval c (compEnvC scope cl C env)); pure (ForInStep.yield ok) else pure (ForInStep.yield r))
        (fun ok s₄ => ok = p v ∧ Keeps ⟨h, gs, dr, tk, os⟩ s₄) E' ⟨h, gs, dr, tk, os⟩)
    (elts : ∀ C v h tk (u : Str → Option Value) gs dr os E', v ∈ items.toList → p v = true → Fr g C h (fun y => if y = x then some v else u y) → News g C h news → Fr g env.locals h m → News g env.locals h news → env.locals < C →
      wpAny (model prog w) A (eval elt (compEnvC scope cl C env)) (fun y s₄ => Fv v y ∧ Keeps ⟨h, gs, dr, tk, os⟩ s₄) E' ⟨h, gs, dr, tk, os⟩)
    (done : ∀ D h' tk ys n, Paired Fv (items.toList.filter p) ys.toList → Fr g env.locals h' m → News g env.locals h' ((D, listOf ys n) :: news) → (∀ p ∈ news, p.1 ≠ D) → Q (.ref D) { s with heap := h', toks := tk }) :
    CompAt prog w A E env scope cl x ifs elt p Fv Q (.ref l) s := by
  have hlt : l < s.heap.objs.size := by obtain ⟨_, e, _⟩ := hl; exact Heap.lt_size e
  refine wpAny_pyIter_list hl ?_
  have hI : s.heap.get? s.heap.objs.size = none := Heap.get?_none_of_le (Nat.le_refl _)
  have hpush : ∀ o b o', s.heap.get? b = some o' → (s.heap.push o).get? b = some o' := fun o b o' e => Heap.get?_push_of_some _ e
  have hwr : ∀ b ∈ [s.heap.objs.size], s.heap.get? b = none := fun b hb => by rw [List.mem_singleton.mp hb]; exact hI
  refine ⟨s.heap.objs.size, [s.heap.objs.size, l], [s.heap.objs.size], items.size, _, _, rfl, Walks.list hh _ l (Nat.ne_of_lt hlt) items, hsz, ⟨⟨_, Heap.get?_push_size _ rfl, rfl, rfl⟩, hl.at fun o e => Heap.get?_push_of_some _ e⟩, ?_, ?_, ?_⟩
  · intro b hb
    show b < (s.heap.push _).objs.size
    rw [Heap.size_push]
    rcases List.mem_cons.mp hb with rfl | hb
    · exact Nat.lt_succ_self _
    · rw [List.mem_singleton.mp hb]; exact Nat.lt_succ_of_lt hlt
  · have hmem : ∀ (i : Nat) (v : Value), items[i]? = some v → v ∈ items.toList := fun i v e => by
      rw [Array.mem_toList_iff]; exact Array.mem_of_getElem? e
    have hsC : ∀ C o, (s.heap.push o).objs.size ≤ C → s.heap.objs.size ≤ C := fun C o hC => by rw [Heap.size_push] at hC; omega
    constructor
    · rintro C i v ⟨h, gs, dr, tk, os⟩ m₃ E' hC hP hn hm hk htk
      obtain ⟨f1, f2, f3, f4, f5⟩ := comp_fr (wr := [s.heap.objs.size]) F N (hsC C _ hC) hn hm (fun b o hb e => hk b o hb (hpush _ b o e)) hwr
      exact tests C v h tk m₃ gs dr os E' (hmem i v hP) f1 f2 f3 f4 f5
    · rintro C i v ⟨h, gs, dr, tk, os⟩ m₃ E' hC hP hpv hn hm hk htk
      obtain ⟨f1, f2, f3, f4, f5⟩ := comp_fr (wr := [s.heap.objs.size]) F N (hsC C _ hC) hn hm (fun b o hb e => hk b o hb (hpush _ b o e)) hwr
      exact elts C v h tk m₃ gs dr os E' (hmem i v hP) hpv f1 f2 f3 f4 f5
  · intro D h' tk ys vs hD hl' hpl hlen hP hpair hk
    have hvs : vs = items.toList := by
      apply List.ext_getElem?
      intro j
      by_cases hj : j < vs.length
      · have e := hP j _ (List.getElem?_eq_getElem hj)
        rw [List.getElem?_eq_getElem hj, Array.getElem?_toList]
        exact e.symm
      · rw [List.getElem?_eq_none (Nat.le_of_not_lt hj), List.getElem?_eq_none]
        simp; omega
    subst hvs
    have up : ∀ b o, s.heap.get? b = some o → h'.get? b = some o := fun b o e => hk b o (fun hb => by rw [hwr b hb] at e; cases e) (hpush _ b o e)
    have hDn : ∀ b o, s.heap.get? b = some o → b ≠ D := fun b o e hb => by
      subst hb
      have := hpush { cls := .type "list_iterator", data := .fields #[.ref l, .int 0 0] } _ _ e
      rw [hD] at this; cases this
    obtain ⟨n, hn⟩ := hpl
    refine done D h' tk ys n hpair (F.keeps up) ?_ fun q hq => hDn _ _ (N q hq).1
    intro q hq
    rcases List.mem_cons.mp hq with rfl | hq
    · refine ⟨hn, fun e => ?_, ?_⟩
      · obtain ⟨o, _, _, ho, _⟩ := F.ns
        exact hDn _ _ ho e.symm
      · cases e : g.get? D with
        | none => rfl
        | some o => exact absurd rfl (hDn _ _ (F.keep _ _ e))
    · exact ⟨up _ _ (N q hq).1, (N q hq).2⟩
end
theorem test_one {M : Model} {A : Around} {c : Expr} {cenv : Env} {Q : Bool → Shared → Prop} {E : Value → Shared → Prop} {s : Shared} (h : wpAny M A (isTrue c cenv (eval c cenv)) Q E s) :
    wpAny M A (forIn [c] true fun c r => if r = true then do let ok ← isTrue c cenv (eval c cenv); pure (ForInStep.yield ok) else pure (ForInStep.yield r)) Q E s := by
  rw [List.forIn_cons]
  simp only [if_true]
  refine wpAny_bind (wpAny_bind (wpAny_mono h (fun ok s' hq => wpAny_pure ?_) fun _ _ e => e))
  simp only [List.forIn_nil]
  exact wpAny_pure hq
theorem test_none {M : Model} {A : Around} {cenv : Env} {Q : Bool → Shared → Prop} {E : Value → Shared → Prop} {s : Shared} (h : Q true s) :
    wpAny M A (forIn ([] : List Expr) true fun c r => if r = true then do let ok ← isTrue c cenv (eval c cenv); pure (ForInStep.yield ok) else pure (ForInStep.yield r)) Q E s := by
  rw [List.forIn_nil]
  exact wpAny_pure h
-- one object of the ledger turns
theorem upd_facts {g h h' : Heap} {L l : Addr} {o o' : Obj} {m : Str → Option Value} {rest : List (Addr × Obj)} (F : Fr g L h m) (N : News g L h ((l, o) :: rest)) (hoff : ∀ p ∈ rest, p.1 ≠ l) (hs : Heap.SameBut l h h') (ho : h'.get? l = some o') :
    Fr g L h' m ∧ News g L h' ((l, o') :: rest) := by
  have hl := N _ (.head _)
  refine ⟨⟨F.ns.sameBut hs (Ne.symm hl.2.1), fun b ob e => ?_, F.above⟩, fun p hp => ?_⟩
  · have hb : b ≠ l := fun e' => by
      subst e'
      have := hl.2.2
      rw [e] at this; cases this
    exact (hs.2 b hb).trans (F.keep b ob e)
  · rcases List.mem_cons.mp hp with rfl | hp
    · exact ⟨ho, hl.2⟩
    · have := N p (.tail _ hp)
      exact ⟨(hs.2 _ (hoff p hp)).trans this.1, this.2⟩
theorem news_swap {g h : Heap} {L : Addr} {a b : Addr × Obj} {rest : List (Addr × Obj)} (N : News g L h (a :: b :: rest)) : News g L h (b :: a :: rest) := fun p hp => by
  rcases List.mem_cons.mp hp with rfl | hp
  · exact N _ (.tail _ (.head _))
  · rcases List.mem_cons.mp hp with rfl | hp
    · exact N _ (.head _)
    · exact N _ (.tail _ (.tail _ hp))
theorem agree_var {st : List Str} {x : Str} {v : Value} {m₀ m₁ : Str → Option Value} (h : ∀ y, st.contains y = false → m₁ y = m₀ y) (hx : m₁ x = some v) : m₁ = fun y => if y = x then some v else if st.contains y then m₁ y else m₀ y := by
  funext y
  by_cases e : y = x
  · subst e; rw [if_pos rfl, hx]
  · rw [if_neg e]
    cases hy : st.contains y with
    | true => simp
    | false => simp [h y hy]
section
variable {prog : Program} {w : World} {A : Around} {E : Value → Shared → Prop} {s : Shared} {env : Env} {h₀ : Heap} {x : Str} {body : List Stmt} {Q : Flow → Shared → Prop}
-- a loop over a range, its ledger told turn by turn
theorem for_range (st : List Str) (Inv : Nat → List (Addr × Obj) → Prop) {r : Addr} {a₀ b₀ : Int} {t₀ u₀ v₀ : Tok} {n : Nat} {m₀ : Str → Option Value} {news : List (Addr × Obj)}
    (hh : A.handled = none) (hr : IsRange s.heap r a₀ b₀ 1 t₀ u₀ v₀) (hsmall : Builtin.Range.small a₀ b₀ 1 = true) (hsz : Builtin.Range.rangeSize a₀ b₀ 1 = (n : Int)) (F : Fr h₀ env.locals s.heap m₀) (N : News h₀ env.locals s.heap news) (h0 : Inv 0 news)
    (turn : ∀ (i : Nat) (t : Tok) (u : Str → Option Value) nx h tk own, i < n → OwnOff own (nx.map (·.1)) → Inv i nx → Fr h₀ env.locals h (fun y => if y = x then some (.int (a₀ + (i : Int)) t) else if st.contains y then u y else m₀ y) → News h₀ env.locals h (nx ++ own) →
      wpAny (model prog w) A (execs body env) (InvPostG h₀ env.locals (fun m' nx' => (∀ y, st.contains y = false → m' y = m₀ y) ∧ Inv (i + 1) nx') own { s with heap := h, toks := tk } Q) E { s with heap := h, toks := tk })
    (done : ∀ (u : Str → Option Value) nx h tk, Inv n nx → Fr h₀ env.locals h (fun y => if st.contains y then u y else m₀ y) → News h₀ env.locals h nx → Q .next { s with heap := h, toks := tk }) :
    wpAny (model prog w) A (pyIter (.ref r)) (fun it s₂ => LoopAtV prog w A h₀ env x body Q E it s₂) E s := by
  refine wpAny_pyIter_range hr hsmall ?_
  have W : Walks prog w A s.heap.objs.size [s.heap.objs.size] [s.heap.objs.size] n (fun i v => i < n ∧ ∃ t, v = .int (a₀ + i * 1) t)
      (fun i h => IsRangeIter h s.heap.objs.size (a₀ + (i : Nat) * 1) ((n : Int) - (i : Nat)) 1) := (Walks.range hh _ a₀ 1 n).bound
  refine kdr_loop (fun i m nx => (∀ y, st.contains y = false → m y = m₀ y) ∧ Inv i nx) W (fun _ h => h) (fun _ h => h) ?_ ?_ ?_ ?_ (by show IsRangeIter _ _ _ _ _; rw [hsz]; simpa using Heap.get?_push_size _ rfl) (F.push _) (fun p hp => ⟨Heap.get?_push_of_some _ (N p hp).1, (N p hp).2⟩) ⟨fun _ _ => rfl, h0⟩ ?_ ?_
  · intro i h hi b hb
    rw [List.mem_singleton.mp hb]
    exact ⟨_, hi⟩
  · intro hm
    exact absurd F.ns.lt ((List.mem_singleton.mp hm) ▸ Nat.lt_irrefl _)
  · intro b hb
    rw [List.mem_singleton.mp hb]
    exact next_is_new F
  · intro p hp hI
    exact absurd (Heap.lt_size (N p hp).1) ((List.mem_singleton.mp hI) ▸ Nat.lt_irrefl _)
  · rintro i v m₁ nx h tk own hi ⟨_, t, rfl⟩ hoff ⟨hag, hinv⟩ F₁ N₁
    have e1 : a₀ + (i : Int) * 1 = a₀ + (i : Int) := by omega
    rw [e1, agree_eq st hag] at F₁
    exact turn i t m₁ nx h tk own hi hoff hinv F₁ N₁
  · rintro m₁ nx h tk ⟨hag, hinv⟩ F₁ N₁
    rw [agree_eq st hag] at F₁
    exact done m₁ nx h tk hinv F₁ N₁
end
section
variable {prog : Program} {w : World} {A : Around} {E : Value → Shared → Prop} {Q : Flow → Shared → Prop} {s : Shared} {env : Env} {h₀ : Heap} {L : Addr}
-- a while whose turns leave the ledger: one int name x, its word, its measure
theorem while_int (st : List Str) (x : Str) (Pi : Int → Prop) (mu : Int → Nat) {test : Expr} {body : List Stmt} {pos : Pos} {m₀ : Str → Option Value} {news : List (Addr × Obj)} {k₀ : Int} {t₀ : Tok}
    (F : Fr h₀ L s.heap m₀) (N : News h₀ L s.heap news) (hx : m₀ x = some (.int k₀ t₀)) (hp : Pi k₀)
    (turn : ∀ (k : Int) (t : Tok) (u : Str → Option Value) h₁ tk₁, Pi k → Fr h₀ L h₁ (fun y => if y = x then some (.int k t) else if st.contains y then u y else m₀ y) → News h₀ L h₁ news →
      wpAny (model prog w) A (isTrue test env (eval test env)) (fun b s₂ =>
        if b = true then wpAny (model prog w) A (execs body env) (WhileStep2 h₀ L s (fun n m₂ n₂ => n₂ = news ∧ (∀ y, st.contains y = false → m₂ y = m₀ y) ∧ ∃ k' t', m₂ x = some (.int k' t') ∧ Pi k' ∧ n = mu k') Q (mu k)) E s₂ else Q .next s₂) E { s with heap := h₁, toks := tk₁ })
    (hE : PassesOwn (model prog w) A env E := by passes_own) :
    wpAny (model prog w) A (exec (.While test body [] pos) env) Q E s := by
  refine While_inv2 (fun n m₂ n₂ => n₂ = news ∧ (∀ y, st.contains y = false → m₂ y = m₀ y) ∧ ∃ k' t', m₂ x = some (.int k' t') ∧ Pi k' ∧ n = mu k') F N (n₀ := mu k₀) ⟨rfl, fun _ _ => rfl, k₀, t₀, hx, hp, rfl⟩ ?_ hE
  rintro n m₁ news₁ h₁ tk₁ F₁ N₁ ⟨rfl, hag, k, t, hk, hpk, rfl⟩
  rw [agree_var hag hk] at F₁
  exact turn k t m₁ h₁ tk₁ hpk F₁ N₁
end
theorem news_rot {g h : Heap} {L : Addr} {a b c : Addr × Obj} {rest : List (Addr × Obj)} (N : News g L h (a :: b :: c :: rest)) : News g L h (c :: a :: b :: rest) := fun p hp => by
  rcases List.mem_cons.mp hp with rfl | hp
  · exact N _ (.tail _ (.tail _ (.head _)))
  · rcases List.mem_cons.mp hp with rfl | hp
    · exact N _ (.head _)
    · rcases List.mem_cons.mp hp with rfl | hp
      · exact N _ (.tail _ (.head _))
      · exact N _ (.tail _ (.tail _ (.tail _ hp)))
theorem led_split {g h : Heap} {L : Addr} {a : Addr × Obj} {rest own : List (Addr × Obj)} (N : News g L h ((a :: rest) ++ own)) : News g L h (a :: (rest ++ own)) := N
theorem agree_in {st st2 : List Str} {u r z : Option Value} {y : Str} [Decidable (st2.contains y = true)] (hy : st.contains y = false) (hs : st2.all (fun z => st.contains z) = true) (h : r = z) : (if st2.contains y = true then u else r) = z := by
  rw [if_neg ?_]
  · exact h
  · intro h2
    have := List.all_eq_true.mp hs y (List.contains_iff_mem.mp h2)
    rw [hy] at this; cases this
end
section
local macro_rules | `(tactic| ktr_enter) => `(tactic| first | (refine' code_def ?k1 ?k2 ?k3 ?k4 ?k5 ?kA ?kF ?kK ?k6 ?k7 ?k8 ?k9 ?kB ?_ ?c2 ?c3 ?c4 ?c5; (case kA => exact rfl); (case kF => exact rfl); (case kK => first | exact rfl | assumption); (case k1 => k_asm); (case k2 => k_asm); (case k3 => k_asm); (case k4 => k_asm); (case k5 => k_asm); (case k6 => k_is); (case k7 => k_is); (case k8 => ktr_room); (case k9 => first | exact BindsTo.of_eq rfl | exact binds_K (by k_in) rfl (by k_is) rfl rfl rfl); (case c5 => decide); (case kB => exact locs rfl); (case c2 => exact rfl); (case c3 => exact rfl); (case c4 => exact rfl); k_whole; intro g' L' h' FG' F' N' B' X' T'; (try dsimp only); (try k_lift B'); (try k_fold)) | (refine' code_defC ?k1 ?k2 ?k3 ?k4 ?k5 ?kA ?kF ?kK ?k6 ?k7 ?k8 ?k9 ?kB ?kD ?_ ?c2 ?c3 ?c4; (case kA => exact rfl); (case kF => exact rfl); (case kK => first | exact rfl | assumption); (case k1 => k_asm); (case k2 => k_asm); (case k3 => k_asm); (case k4 => k_asm); (case k5 => k_asm); (case k6 => k_is); (case k7 => k_is); (case k8 => ktr_room); (case k9 => first | exact BindsTo.of_eq rfl | exact binds_K (by k_in) rfl (by k_is) rfl rfl rfl); (case kB => exact rfl); (case kD => decide +kernel); (case c2 => exact rfl); (case c3 => exact rfl); (case c4 => exact rfl); k_whole; intro g' L' h' tk' cells' FG' F' N' Y' B' X' T' l1; (try k_lt l1); k_cells Y'; (try simp only [List.cons_append, List.nil_append] at N'); (try dsimp only); (try k_lift B'); (try k_fold)))
local macro_rules | `(tactic| walk_at "call builtin:str.lower") => `(tactic| (k_here; (with_reducible show wpAny _ _ (call (Value.builtin "str.lower") [Value.str _ _]) _ _ _); k_dflt (refine' lower_to ?k1 ?k2 ?_; (case k1 => assumption); (case k2 => first | exact Nat.le_of_ble_eq_true rfl | assumption); k_whole); intro t' k'))
local macro_rules | `(tactic| walk_at "getMethod ref") => `(tactic| (k_here; (with_reducible show wpAny _ _ (getMethod (Value.ref _) (PySem.Str.ofString "search") _) _ _ _); k_dflt (refine' search_meth ?k1 ?k2 ?_; (case k1 => k_in); (case k2 => first | exact Or.inl rfl | exact Or.inr rfl); k_whole)))
local macro_rules | `(tactic| walk_at "call builtin:re.Pattern.search") => `(tactic| (k_here; (with_reducible show wpAny _ _ (call (Value.builtin "re.Pattern.search") [Value.ref _, Value.str _ _]) _ _ _); k_dflt (refine' search_none ?k1 ?k2 ?k3 ?_; (case k1 => k_in); (case k2 => first | exact Or.inl rfl | exact Or.inr rfl); (case k3 => assumption); k_whole)))
local macro_rules | `(tactic| k_room) => `(tactic| ktr_room)
local macro_rules | `(tactic| ktn_open) => `(tactic| first | exact agree_base (by assumption) | (refine' agree_step ?q1 ?q2 ?q3; (case q1 => assumption); (case q2 => decide +kernel); (case q3 => ktn_open)) | (refine' agree_in ?q1 ?q2 ?q3; (case q1 => assumption); (case q2 => decide +kernel); (case q3 => ktn_open)) | (dsimp only; ktn_open))
local macro_rules | `(tactic| k_mem) => `(tactic| (refine mem_of ?_; ktr_member))
local macro_rules | `(tactic| k_all) => `(tactic| first | assumption | (refine' off_rest ?q1 ?q2; (case q1 => first | assumption | exact restLt_of (by assumption)); (case q2 => (try dsimp only); omega)))
local macro_rules | `(tactic| walk_at "eval ListComp") => `(tactic| (k_here; refine Hold.out ?_))
local macro_rules | `(tactic| walk_at "call ref") => `(tactic| (k_here; (with_reducible show wpAny _ _ (call (Value.ref 110) [Value.ref _, Value.str _ _]) _ _ _); k_dflt (refine' del_c ?k1 ?k2 ?k3 ?k4 ?k5 ?k6 ?k7 ?k8 ?k9 ?k10 ?k11 ?k12 ?k13 ?_; (case k1 => k_asm); (case k2 => k_asm); (case k3 => k_asm); (case k4 => k_asm); (case k5 => first | exact rfl | assumption); (case k8 => k_asm); (case k9 => k_asm); (case k10 => k_asm); (case k11 => k_asm); (case k12 => k_asm); (case k13 => k_asm); (case k6 => ktr_room); (case k7 => ktr_units)); intro v' nn' h' tk' F' N'; (try k_sweep)))
local macro_rules | `(tactic| walk_at "delItem ref") => `(tactic| (k_here; (with_reducible show wpAny _ _ (delItem (Value.ref _) _) _ _ _); k_dflt (refine' delItem_own ?F ?X ?I ?hQ ?hS ?hF ?_; (case F => k_asm); (case X => k_asm); (case I => k_inst); (case hS => k_is); (case hF => k_is); (case hQ => k_is); k_whole)))
local macro_rules | `(tactic| walk_at "call builtin:list.append") => `(tactic| (k_here; (with_reducible show wpAny _ _ (call (Value.builtin _) [Value.ref _, _]) _ _ _); k_dflt (refine' append_K ?k1 ?k2 ?k3 ?_ ?z; (case k1 => k_asm); (case k2 => k_asm); (case k3 => k_upd); (case z => assumption); k_whole); intro h' F' N'; (try k_sweep)))
local macro_rules | `(tactic| walk_at "exec For Name Call cons nil") => `(tactic| (k_here; refine Hold.out ?_))
local macro_rules | `(tactic| walk_at "exec For Tuple Name cons nil") => `(tactic| (k_here; refine Hold.out ?_))
local macro_rules | `(tactic| walk_at "exec For Tuple Attribute cons nil") => `(tactic| (k_here; refine Hold.out ?_))
local macro_rules | `(tactic| walk_at "exec While UnaryOp cons nil") => `(tactic| (k_here; refine Hold.out ?_))
local macro_rules | `(tactic| walk_at "exec While Compare cons nil") => `(tactic| (k_here; refine Hold.out ?_))
local macro_rules | `(tactic| walk_at "pyIter ref") => `(tactic| (k_here; (with_reducible show wpAny _ _ (pyIter (Value.ref _)) (fun it s₂ => LoopAtV _ _ _ _ _ _ _ _ _ it s₂) _ _); refine Hold.out ?_))
theorem off_PS : True := by
  w_top off
  trivial
-- xs[:] = ys, of two lists
section
variable {prog : Program} {w : World} {A : Around} {E : Value → Shared → Prop} {s : Shared}
theorem setSlice_all {l sl d : Addr} {items its : Array Value} {n : Nat} {Q : Unit → Shared → Prop} (ho : s.heap.get? l = some (listOf items n)) (hs : s.heap.IsSliceOf sl .none .none .none) (hd : s.heap.IsList d its)
    (hsz : items.size + its.size ≤ sizeLine) (hQ : ∀ h' n', h'.get? l = some (listOf its n') → Heap.SameBut l s.heap h' → Q () { s with heap := h' }) (hne : l ≠ d) :
    wpAny (model prog w) A (setItem (.ref l) (.ref sl) (.ref d)) Q E s := by
  have hl : s.heap.IsList l items := ⟨_, ho, rfl, n, rfl⟩
  obtain ⟨od, hod, hcd, nd, hdd⟩ := id hd
  obtain ⟨os, hos, hcs, hds⟩ := id hs
  have hTs : s.TypeIs (.ref sl) "slice" := ⟨os, hos, hcs⟩
  have hTd : s.TypeIs (.ref d) "list" := ⟨od, hod, hcd⟩
  have hs1 : items.size ≤ sizeLine := Nat.le_trans (Nat.le_add_right _ _) hsz
  have hs2 : its.size ≤ sizeLine := Nat.le_trans (Nat.le_add_left _ _) hsz
  unfold setItem
  try with_reducible refine wpAny_holding ?_
  first | refine wpAny_bind (wpAny_pure ?_) | skip
  refine wpAny_bind (wpAny_sequenceKey hl.typeIs (by decide) ?_)
  refine wpAny_bind (wpAny_callSpecial?_slot (name := Str.ofString "__setitem__") hl.typeIs slot_list_setitem
    (wpAny_call_entry slot_list_setitem hl.typeIs entry_list_setitem ?_ (args_list_setitem _ _ _)))
  show wpAny _ _ (Builtin.List.listSubscript? (.ref sl) >>= _) _ _ s
  refine wpAny_bind ?_
  unfold Builtin.List.listSubscript?
  refine wpAny_bind (wpAny_specialOf hTs slice_no_index ?_)
  simp only [Option.isNone_none, if_true]
  refine wpAny_pure ?_
  show wpAny _ _ (typeOf (.ref sl) >>= _) _ _ s
  refine wpAny_bind (wpAny_typeOf hTs ?_)
  rw [if_neg (by decide)]
  rw [listSliceParts_eq]
  refine wpAny_bind (wpAny_bind (wpAny_field hos hds (x := .none) rfl (wpAny_bind (wpAny_listPart .none ?_))))
  rw [if_neg (show ¬ ((rawPart none == rawInt 0) = true) from Bool.false_ne_true)]
  refine wpAny_bind (wpAny_field hos hds (x := .none) rfl (wpAny_bind (wpAny_listPart .none ?_)))
  refine wpAny_bind (wpAny_field hos hds (x := .none) rfl (wpAny_bind (wpAny_listPart .none (wpAny_pure ?_))))
  rw [if_neg (show ¬ (Builtin.List.listSameRef (.ref l) (.ref d) = true) from by simpa [Builtin.List.listSameRef] using hne)]
  refine wpAny_bind ?_
  unfold Builtin.List.listAllItems
  refine wpAny_bind (wpAny_typeOf hTd ?_)
  rw [if_pos (by decide)]
  unfold Builtin.List.listItems
  refine wpAny_bind (wpAny_seqItems hod hdd (wpAny_pure ?_))
  refine wpAny_bind (wpAny_bind (wpAny_seqItems ho rfl (wpAny_pure ?_)))
  refine wpAny_bind (wpAny_of_eq (sliceIndices_raw none none none items.size (by simp)) ?_)
  show wpAny _ _ (if ((1 : Int) == 1) = true then _ else _) _ _ s
  rw [if_pos (by decide)]
  refine wpAny_bind (wpAny_rule ?_)
  rw [if_neg (show ¬ (Builtin.List.listTooLong (items.size + its.size) = true) from by simpa [Builtin.List.listTooLong] using hsz)]
  have ef : (items.extract 0 ((sliceBounds none none none items.size).1.toNat) ++ its ++ items.extract (max (sliceBounds none none none items.size).1 (sliceBounds none none none items.size).2.1).toNat items.size) = its := by
    have e1 : (sliceBounds none none none items.size).1 = 0 := rfl
    have e2 : (sliceBounds none none none items.size).2.1 = (items.size : Int) := rfl
    rw [e1, e2]
    have e3 : (max (0 : Int) (items.size : Int)).toNat = items.size := by omega
    rw [e3]
    simp
  refine wpAny_bind ?_
  show wpAny _ _ (updateSeq l _) _ _ s
  refine wpAny_updateSeq ho rfl ?_ hs1 (by rw [ef]; omega)
  refine wpAny_bind (wpAny_letGo ?_)
  refine wpAny_pure ⟨.none, rfl, wpAny_pure ?_⟩
  obtain ⟨n', hd'⟩ := Obj.data_mapSeq (o := listOf items n) rfl (fun xs => xs.extract 0 ((sliceBounds none none none items.size).1.toNat) ++ its ++ xs.extract (max (sliceBounds none none none items.size).1 (sliceBounds none none none items.size).2.1).toNat xs.size)
  refine hQ _ n' ?_ (Heap.SameBut.update ..)
  refine (Heap.get?_update_self _ ho (Obj.isFreed_of_seq hd')).trans ?_
  have e : Obj.mapSeq (fun xs => xs.extract 0 ((sliceBounds none none none items.size).1.toNat) ++ its ++ xs.extract (max (sliceBounds none none none items.size).1 (sliceBounds none none none items.size).2.1).toNat xs.size) (listOf items n) = { cls := .type "list", data := .seq its n' } := by
    have h1 : (Obj.mapSeq (fun xs => xs.extract 0 ((sliceBounds none none none items.size).1.toNat) ++ its ++ xs.extract (max (sliceBounds none none none items.size).1 (sliceBounds none none none items.size).2.1).toNat xs.size) (listOf items n)).data = .seq its n' := by
      rw [hd', ef]
    unfold Obj.mapSeq at h1 ⊢
    dsimp only at h1 ⊢
    rw [h1]
  exact congrArg some e
end
-- del o[i], of an object whose class defines it
theorem delItem_own {M : Model} {A : Around} {E : Value → Shared → Prop} {s : Shared} {K : Frag} {x C L f : Addr} {h₀ : Heap} {m : Str → Option Value} {ox : Obj} {od : Option Obj} {i : Value} {Q : Unit → Shared → Prop}
    (F : Fr h₀ L s.heap m) (X₀ : K.In h₀) (I : InstAt s.heap x ox C od) (hq : noSeq K C = true) (hs : findIn K (.ref C) "__delitem__" = some (some (.ref f))) (hf : isFn K (.ref f) = true)
    (h : wpAny M A (call (.ref f) [.ref x, i]) (fun _ s' => Q () s') E s) : wpAny M A (delItem (.ref x) i) Q E s := by
  have X := X₀.keeps F.keep
  unfold delItem sequenceKey
  refine wpAny_holding (wpAny_bind (wpAny_bind (I.type.here ?_)))
  refine wpAny_bind ((anyM_none X hq).here ?_)
  rw [if_pos (show (!false) = true from rfl)]
  refine wpAny_pure (wpAny_bind (special_fn X I hs (beq_iff_eq.mp hf) ?_))
  exact wpAny_mono h (fun _ _ z => wpAny_pure z) fun _ _ z => z
end
section
local macro_rules | `(tactic| ktr_enter) => `(tactic| first | (refine' code_def ?k1 ?k2 ?k3 ?k4 ?k5 ?kA ?kF ?kK ?k6 ?k7 ?k8 ?k9 ?kB ?_ ?c2 ?c3 ?c4 ?c5; (case kA => exact rfl); (case kF => exact rfl); (case kK => first | exact rfl | assumption); (case k1 => k_asm); (case k2 => k_asm); (case k3 => k_asm); (case k4 => k_asm); (case k5 => k_asm); (case k6 => k_is); (case k7 => k_is); (case k8 => ktr_room); (case k9 => first | exact BindsTo.of_eq rfl | exact binds_K (by k_in) rfl (by k_is) rfl rfl rfl); (case c5 => decide); (case kB => exact locs rfl); (case c2 => exact rfl); (case c3 => exact rfl); (case c4 => exact rfl); k_whole; intro g' L' h' FG' F' N' B' X' T'; (try dsimp only); (try k_lift B'); (try k_fold)) | (refine' code_defC ?k1 ?k2 ?k3 ?k4 ?k5 ?kA ?kF ?kK ?k6 ?k7 ?k8 ?k9 ?kB ?kD ?_ ?c2 ?c3 ?c4; (case kA => exact rfl); (case kF => exact rfl); (case kK => first | exact rfl | assumption); (case k1 => k_asm); (case k2 => k_asm); (case k3 => k_asm); (case k4 => k_asm); (case k5 => k_asm); (case k6 => k_is); (case k7 => k_is); (case k8 => ktr_room); (case k9 => first | exact BindsTo.of_eq rfl | exact binds_K (by k_in) rfl (by k_is) rfl rfl rfl); (case kB => exact rfl); (case kD => decide +kernel); (case c2 => exact rfl); (case c3 => exact rfl); (case c4 => exact rfl); k_whole; intro g' L' h' tk' cells' FG' F' N' Y' B' X' T' l1; (try k_lt l1); k_cells Y'; (try simp only [List.cons_append, List.nil_append] at N'); (try dsimp only); (try k_lift B'); (try k_fold)))
local macro_rules | `(tactic| walk_at "call builtin:str.lower") => `(tactic| (k_here; (with_reducible show wpAny _ _ (call (Value.builtin "str.lower") [Value.str _ _]) _ _ _); k_dflt (refine' lower_to ?k1 ?k2 ?_; (case k1 => assumption); (case k2 => first | exact Nat.le_of_ble_eq_true rfl | assumption); k_whole); intro t' k'))
local macro_rules | `(tactic| walk_at "getMethod ref") => `(tactic| (k_here; (with_reducible show wpAny _ _ (getMethod (Value.ref _) (PySem.Str.ofString "search") _) _ _ _); k_dflt (refine' search_meth ?k1 ?k2 ?_; (case k1 => k_in); (case k2 => first | exact Or.inl rfl | exact Or.inr rfl); k_whole)))
local macro_rules | `(tactic| walk_at "call builtin:re.Pattern.search") => `(tactic| (k_here; (with_reducible show wpAny _ _ (call (Value.builtin "re.Pattern.search") [Value.ref _, Value.str _ _]) _ _ _); k_dflt (refine' search_none ?k1 ?k2 ?k3 ?_; (case k1 => k_in); (case k2 => first | exact Or.inl rfl | exact Or.inr rfl); (case k3 => assumption); k_whole)))
local macro_rules | `(tactic| k_room) => `(tactic| ktr_room)
local macro_rules | `(tactic| ktn_open) => `(tactic| first | exact agree_base (by assumption) | (refine' agree_step ?q1 ?q2 ?q3; (case q1 => assumption); (case q2 => decide +kernel); (case q3 => ktn_open)) | (refine' agree_in ?q1 ?q2 ?q3; (case q1 => assumption); (case q2 => decide +kernel); (case q3 => ktn_open)) | (dsimp only; ktn_open))
local macro_rules | `(tactic| k_mem) => `(tactic| (refine mem_of ?_; ktr_member))
local macro_rules | `(tactic| k_all) => `(tactic| first | assumption | (refine' off_rest ?q1 ?q2; (case q1 => first | assumption | exact restLt_of (by assumption)); (case q2 => (try dsimp only); omega)))
local macro_rules | `(tactic| walk_at "eval ListComp") => `(tactic| (k_here; refine Hold.out ?_))
local macro_rules | `(tactic| walk_at "call ref") => `(tactic| (k_here; (with_reducible show wpAny _ _ (call (Value.ref 110) [Value.ref _, Value.str _ _]) _ _ _); k_dflt (refine' del_c ?k1 ?k2 ?k3 ?k4 ?k5 ?k6 ?k7 ?k8 ?k9 ?k10 ?k11 ?k12 ?k13 ?_; (case k1 => k_asm); (case k2 => k_asm); (case k3 => k_asm); (case k4 => k_asm); (case k5 => first | exact rfl | assumption); (case k8 => k_asm); (case k9 => k_asm); (case k10 => k_asm); (case k11 => k_asm); (case k12 => k_asm); (case k13 => k_asm); (case k6 => ktr_room); (case k7 => ktr_units)); intro v' nn' h' tk' F' N'; (try k_sweep)))
local macro_rules | `(tactic| walk_at "delItem ref") => `(tactic| (k_here; (with_reducible show wpAny _ _ (delItem (Value.ref _) _) _ _ _); k_dflt (refine' delItem_own ?F ?X ?I ?hQ ?hS ?hF ?_; (case F => k_asm); (case X => k_asm); (case I => k_inst); (case hS => k_is); (case hF => k_is); (case hQ => k_is); k_whole)))
local macro_rules | `(tactic| walk_at "call builtin:list.append") => `(tactic| (k_here; (with_reducible show wpAny _ _ (call (Value.builtin _) [Value.ref _, _]) _ _ _); k_dflt (refine' append_K ?k1 ?k2 ?k3 ?_ ?z; (case k1 => k_asm); (case k2 => k_asm); (case k3 => k_upd); (case z => assumption); k_whole); intro h' F' N'; (try k_sweep)))
local macro_rules | `(tactic| walk_at "exec For Name Call cons nil") => `(tactic| (k_here; refine Hold.out ?_))
local macro_rules | `(tactic| walk_at "exec For Tuple Name cons nil") => `(tactic| (k_here; refine Hold.out ?_))
local macro_rules | `(tactic| walk_at "exec For Tuple Attribute cons nil") => `(tactic| (k_here; refine Hold.out ?_))
local macro_rules | `(tactic| walk_at "exec While UnaryOp cons nil") => `(tactic| (k_here; refine Hold.out ?_))
local macro_rules | `(tactic| walk_at "exec While Compare cons nil") => `(tactic| (k_here; refine Hold.out ?_))
local macro_rules | `(tactic| walk_at "pyIter ref") => `(tactic| (k_here; (with_reducible show wpAny _ _ (pyIter (Value.ref _)) (fun it s₂ => LoopAtV _ _ _ _ _ _ _ _ _ it s₂) _ _); refine Hold.out ?_))
local macro_rules | `(tactic| walk_at "no such place") => `(tactic| fail)
theorem off_P1 : True := by
  w_top off
  trivial
-- Headers.get over a table that the law filled
def rowD (i : Nat) (n : Int) : Dat := Dat.tuple [Dat.str (loL i), Dat.str (numS n)]
def rowsD (ts : List Int) : List Dat := ts.mapIdx rowD
structure GD where
  ts : List Int
  j : Nat
inductive GRel (news : List (Addr × Obj)) : List Value → GD → Prop
  | mk {tb dx L : Addr} {hh : Int} {kt : Tok} {n nn : Nat} {vs : List Value} {ts : List Int} {j : Nat} {t : Tok} :
    (tb, instObj 192 dx) ∈ news → (dx, dictOf [⟨hh, .str (Str.ofString "_headers") kt, .ref L⟩] n) ∈ news → (L, listOf vs.toArray nn) ∈ news → DatAll news vs (rowsD ts) →
    GRel news [.ref tb, .str (upL j) t] ⟨ts, j⟩
def getT : ToldN GD where
  Rel := GRel
  Ok := fun d => d.ts.length ≤ 12 ∧ d.j < d.ts.length
  size := fun _ => 3
  Tl := fun tl => tl = []
  Out := fun _ r d => ∃ t, r = .str (numS (d.ts.getD d.j 0)) t
theorem get_c (w : World) (mean : ExcName → Option Value) (mg mb : Str → Option Value) : ∀ d, TellsN PySem.Challenge.rw_we0022_01.row.prog w (hd.heap_39 w.params) hd.view_39 LS mean mg mb 139 getT d := by
  intro d
  k_fill
  unfold TellsN
  intro dp un gd cn cs a ccd cl outer A₀ base h₀ L m news s vs Q E B F X N T hk hR hok hdd hu hret
  cases hR
  rename_i tb dx Lh hh kt n nn vs ts j t m1 m2 m3 hall
  have hj : j < ts.length := hok.2
  have hj12 : j < 12 := Nat.lt_of_lt_of_le hj hok.1
  have hlow := low_up j hj12
  simp only [getT] at hdd hu
  have hsr := srch_lo w j hj12
  refine wpAny_call ?_
  k_dflt ktr_enter
  k_steps
  refine Hold.mk ?_
  (with_reducible rename Fr _ _ _ _ => F1)
  (with_reducible rename News _ _ _ _ => N1)
  refine For_unrF F1 ?_ (fun _ => rfl)
  k_steps
  refine Iter_list_unr rfl (news_list N1 m3) F1 N1 (N1 _ m3).2.1 ?_
  have hlen : vs.toArray.size = ts.length := by
    rw [List.size_toArray, hall.length]; simp [rowsD]
  refine unr_ind [Str.ofString "k", Str.ofString "v"] (fun i => i ≤ j) (Nat.zero_le _) ?_ ?_
  · intro i u hi hle v h₁ tk₁ own hP hown F2 N2
    rw [hlen] at hi
    have hii : i < (rowsD ts).length := by simpa [rowsD] using hi
    obtain ⟨v', hv', hd⟩ := hall.get hii
    have ev : v' = v := by
      have hP' : vs.toArray[i]? = some v := hP
      rw [List.getElem?_toArray, hv'] at hP'
      exact Option.some.inj hP'
    subst ev
    have hd2 : DatIn news v' (rowD i (ts[i]'hi)) := by simpa [rowsD] using hd
    obtain ⟨ta, tn, t1, t2, rfl, mt⟩ := dat_pair hd2
    have hlow2 := low_lo i (Nat.lt_of_lt_of_le hi hok.1)
    clear F1 N1
    k_steps
    · (rename (loL i == loL j) = true => he)
      (with_reducible rename News h₀ _ _ _ => kN)
      have hij : i = j := lo_inj (eq_of_beq he)
      subst hij
      exact hret _ [] _ _ (by k_asm) (fun p hp => kN p (List.mem_append_right _ (by simpa using hp))) (fun _ _ _ h9 => nomatch h9) rfl ⟨t2, by simp [List.getD, hi]⟩
    · ktn_open
    · (rename (loL i == loL j) = false => he)
      have hne : i ≠ j := fun e => by subst e; simp at he
      omega
  · intro u h' tk hle
    exact absurd hle (by rw [hlen]; omega)
theorem get_use {w : World} {mean : ExcName → Option Value} {mg mb : Str → Option Value} {dp un : Nat} {gd : Option (List Code)} {cn : Str} {cs : Scope} {a : Addr} {ccd : Value} {cl : List (Str × Addr)} {outer : List Env} {A₀ : Around} {base h₀ : Heap} {L : Addr} {m : Str → Option Value} {s : Shared}
    {Q E : Value → Shared → Prop} (B : Below A₀ base outer h₀) (F : Fr h₀ L s.heap m) (X : (hd.heap_39 w.params).In h₀) (T : Top hd.view_39 LS mean mg mb h₀) (hk : cs.kind = .function) (hdd : dp + 3 < recursionLimit) (hu : un + 24 < cLine)
    {news : List (Addr × Obj)} {tb dx Lh : Addr} {hh : Int} {kt : Tok} {n nn : Nat} {vs : List Value} {ts : List Int} {j : Nat} {x : Str} {t : Tok} (hx : x = upL j)
    (N : News h₀ L s.heap news) (m1 : (tb, instObj 192 dx) ∈ news) (m2 : (dx, dictOf [⟨hh, .str (Str.ofString "_headers") kt, .ref Lh⟩] n) ∈ news) (m3 : (Lh, listOf vs.toArray nn) ∈ news)
    (hall : DatAll news vs (rowsD ts)) (hlt : ts.length ≤ 12) (hj : j < ts.length)
    (hret : ∀ t' h' tk', Fr h₀ L h' m → News h₀ L h' news → Q (.str (numS (ts.getD j 0)) t') { s with heap := h', toks := tk' }) :
    wpAny (model PySem.Challenge.rw_we0022_01.row.prog w) (ktrTop dp un gd cn cs L a ccd cl outer) (call (.ref 139) [.ref tb, .str x t]) Q E s := by
  subst hx
  refine tellsN_use B F X N T hk (GRel.mk m1 m2 m3 hall) (get_c w mean mg mb ⟨ts, j⟩) ⟨hlt, hj⟩ hdd hu ?_
  rintro r tl h' tk' F' N' _ rfl ⟨t', rfl⟩
  exact hret t' h' tk' F' (by simpa using N')
end
section
local macro_rules | `(tactic| ktr_enter) => `(tactic| first | (refine' code_def ?k1 ?k2 ?k3 ?k4 ?k5 ?kA ?kF ?kK ?k6 ?k7 ?k8 ?k9 ?kB ?_ ?c2 ?c3 ?c4 ?c5; (case kA => exact rfl); (case kF => exact rfl); (case kK => first | exact rfl | assumption); (case k1 => k_asm); (case k2 => k_asm); (case k3 => k_asm); (case k4 => k_asm); (case k5 => k_asm); (case k6 => k_is); (case k7 => k_is); (case k8 => ktr_room); (case k9 => first | exact BindsTo.of_eq rfl | exact binds_K (by k_in) rfl (by k_is) rfl rfl rfl); (case c5 => decide); (case kB => exact locs rfl); (case c2 => exact rfl); (case c3 => exact rfl); (case c4 => exact rfl); k_whole; intro g' L' h' FG' F' N' B' X' T'; (try dsimp only); (try k_lift B'); (try k_fold)) | (refine' code_defC ?k1 ?k2 ?k3 ?k4 ?k5 ?kA ?kF ?kK ?k6 ?k7 ?k8 ?k9 ?kB ?kD ?_ ?c2 ?c3 ?c4; (case kA => exact rfl); (case kF => exact rfl); (case kK => first | exact rfl | assumption); (case k1 => k_asm); (case k2 => k_asm); (case k3 => k_asm); (case k4 => k_asm); (case k5 => k_asm); (case k6 => k_is); (case k7 => k_is); (case k8 => ktr_room); (case k9 => first | exact BindsTo.of_eq rfl | exact binds_K (by k_in) rfl (by k_is) rfl rfl rfl); (case kB => exact rfl); (case kD => decide +kernel); (case c2 => exact rfl); (case c3 => exact rfl); (case c4 => exact rfl); k_whole; intro g' L' h' tk' cells' FG' F' N' Y' B' X' T' l1; (try k_lt l1); k_cells Y'; (try simp only [List.cons_append, List.nil_append] at N'); (try dsimp only); (try k_lift B'); (try k_fold)))
local macro_rules | `(tactic| walk_at "call builtin:str.lower") => `(tactic| (k_here; (with_reducible show wpAny _ _ (call (Value.builtin "str.lower") [Value.str _ _]) _ _ _); k_dflt (refine' lower_to ?k1 ?k2 ?_; (case k1 => assumption); (case k2 => first | exact Nat.le_of_ble_eq_true rfl | assumption); k_whole); intro t' k'))
local macro_rules | `(tactic| walk_at "getMethod ref") => `(tactic| (k_here; (with_reducible show wpAny _ _ (getMethod (Value.ref _) (PySem.Str.ofString "search") _) _ _ _); k_dflt (refine' search_meth ?k1 ?k2 ?_; (case k1 => k_in); (case k2 => first | exact Or.inl rfl | exact Or.inr rfl); k_whole)))
local macro_rules | `(tactic| walk_at "call builtin:re.Pattern.search") => `(tactic| (k_here; (with_reducible show wpAny _ _ (call (Value.builtin "re.Pattern.search") [Value.ref _, Value.str _ _]) _ _ _); k_dflt (refine' search_none ?k1 ?k2 ?k3 ?_; (case k1 => k_in); (case k2 => first | exact Or.inl rfl | exact Or.inr rfl); (case k3 => assumption); k_whole)))
local macro_rules | `(tactic| k_room) => `(tactic| ktr_room)
local macro_rules | `(tactic| ktn_open) => `(tactic| first | exact agree_base (by assumption) | (refine' agree_step ?q1 ?q2 ?q3; (case q1 => assumption); (case q2 => decide +kernel); (case q3 => ktn_open)) | (refine' agree_in ?q1 ?q2 ?q3; (case q1 => assumption); (case q2 => decide +kernel); (case q3 => ktn_open)) | (dsimp only; ktn_open))
local macro_rules | `(tactic| k_mem) => `(tactic| (refine mem_of ?_; ktr_member))
local macro_rules | `(tactic| k_all) => `(tactic| first | assumption | (refine' off_rest ?q1 ?q2; (case q1 => first | assumption | exact restLt_of (by assumption)); (case q2 => (try dsimp only); omega)))
local macro_rules | `(tactic| walk_at "eval ListComp") => `(tactic| (k_here; refine Hold.out ?_))
local macro_rules | `(tactic| walk_at "call ref") => `(tactic| (k_here; (with_reducible show wpAny _ _ (call (Value.ref 110) [Value.ref _, Value.str _ _]) _ _ _); k_dflt (refine' del_c ?k1 ?k2 ?k3 ?k4 ?k5 ?k6 ?k7 ?k8 ?k9 ?k10 ?k11 ?k12 ?k13 ?_; (case k1 => k_asm); (case k2 => k_asm); (case k3 => k_asm); (case k4 => k_asm); (case k5 => first | exact rfl | assumption); (case k8 => k_asm); (case k9 => k_asm); (case k10 => k_asm); (case k11 => k_asm); (case k12 => k_asm); (case k13 => k_asm); (case k6 => ktr_room); (case k7 => ktr_units)); intro v' nn' h' tk' F' N'; (try k_sweep)))
local macro_rules | `(tactic| walk_at "delItem ref") => `(tactic| (k_here; (with_reducible show wpAny _ _ (delItem (Value.ref _) _) _ _ _); k_dflt (refine' delItem_own ?F ?X ?I ?hQ ?hS ?hF ?_; (case F => k_asm); (case X => k_asm); (case I => k_inst); (case hS => k_is); (case hF => k_is); (case hQ => k_is); k_whole)))
local macro_rules | `(tactic| walk_at "call builtin:list.append") => `(tactic| (k_here; (with_reducible show wpAny _ _ (call (Value.builtin _) [Value.ref _, _]) _ _ _); k_dflt (refine' append_K ?k1 ?k2 ?k3 ?_ ?z; (case k1 => k_asm); (case k2 => k_asm); (case k3 => k_upd); (case z => assumption); k_whole); intro h' F' N'; (try k_sweep)))
local macro_rules | `(tactic| walk_at "exec For Name Call cons nil") => `(tactic| (k_here; refine Hold.out ?_))
local macro_rules | `(tactic| walk_at "exec For Tuple Name cons nil") => `(tactic| (k_here; refine Hold.out ?_))
local macro_rules | `(tactic| walk_at "exec For Tuple Attribute cons nil") => `(tactic| (k_here; refine Hold.out ?_))
local macro_rules | `(tactic| walk_at "exec While UnaryOp cons nil") => `(tactic| (k_here; refine Hold.out ?_))
local macro_rules | `(tactic| walk_at "exec While Compare cons nil") => `(tactic| (k_here; refine Hold.out ?_))
local macro_rules | `(tactic| walk_at "pyIter ref") => `(tactic| (k_here; (with_reducible show wpAny _ _ (pyIter (Value.ref _)) (fun it s₂ => LoopAtV _ _ _ _ _ _ _ _ _ it s₂) _ _); refine Hold.out ?_))
theorem off_P2 : True := by
  w_top off
  trivial
-- Headers.__delitem__ of a name that is not there
theorem del_c {w : World} {mean : ExcName → Option Value} {mg mb : Str → Option Value} {dp un : Nat} {gd : Option (List Code)} {cn : Str} {cs : Scope} {a : Addr} {ccd : Value} {cl : List (Str × Addr)} {outer : List Env} {A₀ : Around} {base h₀ : Heap} {L : Addr} {m : Str → Option Value} {s : Shared}
    {Q E : Value → Shared → Prop} (B : Below A₀ base outer h₀) (F : Fr h₀ L s.heap m) (X : (hd.heap_39 w.params).In h₀) (T : Top hd.view_39 LS mean mg mb h₀) (hk : cs.kind = .function) (hdd : dp + 3 < recursionLimit) (hu : un + 24 < cLine)
    {rest : List (Addr × Obj)} {tb dx Lh : Addr} {hh : Int} {kt : Tok} {n nn : Nat} {vs : List Value} {ts : List Int} {t : Tok}
    (N : News h₀ L s.heap ((Lh, listOf vs.toArray nn) :: rest)) (hoff : ∀ p ∈ rest, p.1 ≠ Lh) (m1 : (tb, instObj 192 dx) ∈ rest) (m2 : (dx, dictOf [⟨hh, .str (Str.ofString "_headers") kt, .ref Lh⟩] n) ∈ rest)
    (hall : DatAll rest vs (rowsD ts)) (hlt : ts.length < 12)
    (hret : ∀ v nn' h' tk', Fr h₀ L h' m → News h₀ L h' ((Lh, listOf vs.toArray nn') :: rest) → Q v { s with heap := h', toks := tk' }) :
    wpAny (model PySem.Challenge.rw_we0022_01.row.prog w) (ktrTop dp un gd cn cs L a ccd cl outer) (call (.ref 110) [.ref tb, .str (loL ts.length) t]) Q E s := by
  revert X; k_fill; intro X
  have hlow := low_lo ts.length hlt
  have hsr := srch_lo w ts.length hlt
  refine wpAny_call ?_
  k_dflt ktr_enter
  (rename _ ∧ AllLt _ _ => l1)
  have hR := restLt_of l1.2
  k_steps
  refine Hold.mk ?_
  refine comp_rule (p := fun _ => true) (Fv := fun a b => b = a) rfl (by decide +kernel) rfl (by decide +kernel) rfl (fun _ => rfl) ?_
  k_steps
  (with_reducible rename Fr _ _ _ _ => F1)
  (with_reducible rename News _ _ _ _ => N1)
  have hsz : vs.toArray.size ≤ sizeLine := by
    rw [List.size_toArray, hall.length]; simp [rowsD]; rw [sizeLine_eq]; omega
  have hL := news_list (its := vs.toArray) (n := nn) (l := Lh) N1 (by k_mem)
  refine' comp_list _ _ ?hh ?hl ?hsz ?FF ?NN ?tt ?ee ?dd
  case hh => exact rfl
  case hl => exact hL
  case hsz => exact hsz
  case FF => exact F1
  case NN => exact N1
  case tt =>
    intro C v h tk u gs dr os E' hv F2 N2 F3 N3 hLC
    refine test_one ?_
    have hv2 : v ∈ vs := by simpa using hv
    obtain ⟨i, hvi⟩ := List.getElem?_of_mem hv2
    have hi' : i < (rowsD ts).length := by rw [← hall.length]; exact (List.getElem?_eq_some_iff.mp hvi).1
    obtain ⟨v', hv', hd⟩ := hall.get hi'
    rw [hvi] at hv'
    have ev := Option.some.inj hv'
    subst ev
    have hi2 : i < ts.length := by simpa [rowsD] using hi'
    have hd2 : DatIn rest v (rowD i (ts[i]'hi2)) := by simpa [rowsD] using hd
    obtain ⟨ta, tn, t1, t2, rfl, mt⟩ := dat_pair hd2
    have hlow2 := low_lo i (Nat.lt_trans hi2 hlt)
    clear F1 N1
    k_steps
    all_goals (try k_data)
    · exact bne_iff_ne.mpr fun e => absurd (lo_inj e) (by omega)
    · exact ⟨_, _, rfl, fun _ _ e => e⟩
  case ee =>
    intro C v h tk u gs dr os E' hv hp F2 N2 F3 N3 hLC
    clear F1 N1
    k_steps
    all_goals (try k_data)
    exact ⟨_, _, rfl, fun _ _ e => e⟩
  case dd =>
    intro D h' tk' ys n' hpair F2 N2 hne
    have hys : ys = vs.toArray := by
      apply Array.ext'
      have := paired_self hpair
      rw [this]
      simp
    subst hys
    clear F1 N1
    k_steps
    all_goals (try k_data)
    have mL := N2 _ (.tail _ (.tail _ (.head _)))
    have mD := N2 _ (.head _)
    refine setSlice_all (Heap.get?_push_of_some _ mL.1) (Heap.IsSliceOf.new _ _ _ _) ⟨_, Heap.get?_push_of_some _ mD.1, rfl, _, rfl⟩ ?_ ?_ (hne _ (.tail _ (.head _)))
    · have : vs.toArray.size ≤ 12 := by
        rw [List.size_toArray, hall.length]; simp [rowsD]; omega
      rw [sizeLine_eq]; omega
    · intro h2 n2 ho hs
      obtain ⟨F3, N3⟩ := upd_facts (F2.push _) (fun p hp => ⟨Heap.get?_push_of_some _ (N2 p (.tail _ (.tail _ hp))).1, (N2 p (.tail _ (.tail _ hp))).2⟩) hoff hs ho
      clear F2 N2
      k_steps
      all_goals (try k_data)
      exact hret _ n2 _ _ (by k_asm) (by k_asm)
end
section
local macro_rules | `(tactic| ktr_enter) => `(tactic| first | (refine' code_def ?k1 ?k2 ?k3 ?k4 ?k5 ?kA ?kF ?kK ?k6 ?k7 ?k8 ?k9 ?kB ?_ ?c2 ?c3 ?c4 ?c5; (case kA => exact rfl); (case kF => exact rfl); (case kK => first | exact rfl | assumption); (case k1 => k_asm); (case k2 => k_asm); (case k3 => k_asm); (case k4 => k_asm); (case k5 => k_asm); (case k6 => k_is); (case k7 => k_is); (case k8 => ktr_room); (case k9 => first | exact BindsTo.of_eq rfl | exact binds_K (by k_in) rfl (by k_is) rfl rfl rfl); (case c5 => decide); (case kB => exact locs rfl); (case c2 => exact rfl); (case c3 => exact rfl); (case c4 => exact rfl); k_whole; intro g' L' h' FG' F' N' B' X' T'; (try dsimp only); (try k_lift B'); (try k_fold)) | (refine' code_defC ?k1 ?k2 ?k3 ?k4 ?k5 ?kA ?kF ?kK ?k6 ?k7 ?k8 ?k9 ?kB ?kD ?_ ?c2 ?c3 ?c4; (case kA => exact rfl); (case kF => exact rfl); (case kK => first | exact rfl | assumption); (case k1 => k_asm); (case k2 => k_asm); (case k3 => k_asm); (case k4 => k_asm); (case k5 => k_asm); (case k6 => k_is); (case k7 => k_is); (case k8 => ktr_room); (case k9 => first | exact BindsTo.of_eq rfl | exact binds_K (by k_in) rfl (by k_is) rfl rfl rfl); (case kB => exact rfl); (case kD => decide +kernel); (case c2 => exact rfl); (case c3 => exact rfl); (case c4 => exact rfl); k_whole; intro g' L' h' tk' cells' FG' F' N' Y' B' X' T' l1; (try k_lt l1); k_cells Y'; (try simp only [List.cons_append, List.nil_append] at N'); (try dsimp only); (try k_lift B'); (try k_fold)))
local macro_rules | `(tactic| walk_at "call builtin:str.lower") => `(tactic| (k_here; (with_reducible show wpAny _ _ (call (Value.builtin "str.lower") [Value.str _ _]) _ _ _); k_dflt (refine' lower_to ?k1 ?k2 ?_; (case k1 => assumption); (case k2 => first | exact Nat.le_of_ble_eq_true rfl | assumption); k_whole); intro t' k'))
local macro_rules | `(tactic| walk_at "getMethod ref") => `(tactic| (k_here; (with_reducible show wpAny _ _ (getMethod (Value.ref _) (PySem.Str.ofString "search") _) _ _ _); k_dflt (refine' search_meth ?k1 ?k2 ?_; (case k1 => k_in); (case k2 => first | exact Or.inl rfl | exact Or.inr rfl); k_whole)))
local macro_rules | `(tactic| walk_at "call builtin:re.Pattern.search") => `(tactic| (k_here; (with_reducible show wpAny _ _ (call (Value.builtin "re.Pattern.search") [Value.ref _, Value.str _ _]) _ _ _); k_dflt (refine' search_none ?k1 ?k2 ?k3 ?_; (case k1 => k_in); (case k2 => first | exact Or.inl rfl | exact Or.inr rfl); (case k3 => assumption); k_whole)))
local macro_rules | `(tactic| k_room) => `(tactic| ktr_room)
local macro_rules | `(tactic| ktn_open) => `(tactic| first | exact agree_base (by assumption) | (refine' agree_step ?q1 ?q2 ?q3; (case q1 => assumption); (case q2 => decide +kernel); (case q3 => ktn_open)) | (refine' agree_in ?q1 ?q2 ?q3; (case q1 => assumption); (case q2 => decide +kernel); (case q3 => ktn_open)) | (dsimp only; ktn_open))
local macro_rules | `(tactic| k_mem) => `(tactic| (refine mem_of ?_; ktr_member))
local macro_rules | `(tactic| k_all) => `(tactic| first | assumption | (refine' off_rest ?q1 ?q2; (case q1 => first | assumption | exact restLt_of (by assumption)); (case q2 => (try dsimp only); omega)))
local macro_rules | `(tactic| walk_at "eval ListComp") => `(tactic| (k_here; refine Hold.out ?_))
local macro_rules | `(tactic| walk_at "call ref") => `(tactic| (k_here; (with_reducible show wpAny _ _ (call (Value.ref 110) [Value.ref _, Value.str _ _]) _ _ _); k_dflt (refine' del_c ?k1 ?k2 ?k3 ?k4 ?k5 ?k6 ?k7 ?k8 ?k9 ?k10 ?k11 ?k12 ?k13 ?_; (case k1 => k_asm); (case k2 => k_asm); (case k3 => k_asm); (case k4 => k_asm); (case k5 => first | exact rfl | assumption); (case k8 => k_asm); (case k9 => k_asm); (case k10 => k_asm); (case k11 => k_asm); (case k12 => k_asm); (case k13 => k_asm); (case k6 => ktr_room); (case k7 => ktr_units)); intro v' nn' h' tk' F' N'; (try k_sweep)))
local macro_rules | `(tactic| walk_at "delItem ref") => `(tactic| (k_here; (with_reducible show wpAny _ _ (delItem (Value.ref _) _) _ _ _); k_dflt (refine' delItem_own ?F ?X ?I ?hQ ?hS ?hF ?_; (case F => k_asm); (case X => k_asm); (case I => k_inst); (case hS => k_is); (case hF => k_is); (case hQ => k_is); k_whole)))
local macro_rules | `(tactic| walk_at "call builtin:list.append") => `(tactic| (k_here; (with_reducible show wpAny _ _ (call (Value.builtin _) [Value.ref _, _]) _ _ _); k_dflt (refine' append_K ?k1 ?k2 ?k3 ?_ ?z; (case k1 => k_asm); (case k2 => k_asm); (case k3 => k_upd); (case z => assumption); k_whole); intro h' F' N'; (try k_sweep)))
local macro_rules | `(tactic| walk_at "exec For Name Call cons nil") => `(tactic| (k_here; refine Hold.out ?_))
local macro_rules | `(tactic| walk_at "exec For Tuple Name cons nil") => `(tactic| (k_here; refine Hold.out ?_))
local macro_rules | `(tactic| walk_at "exec For Tuple Attribute cons nil") => `(tactic| (k_here; refine Hold.out ?_))
local macro_rules | `(tactic| walk_at "exec While UnaryOp cons nil") => `(tactic| (k_here; refine Hold.out ?_))
local macro_rules | `(tactic| walk_at "exec While Compare cons nil") => `(tactic| (k_here; refine Hold.out ?_))
local macro_rules | `(tactic| walk_at "pyIter ref") => `(tactic| (k_here; (with_reducible show wpAny _ _ (pyIter (Value.ref _)) (fun it s₂ => LoopAtV _ _ _ _ _ _ _ _ _ it s₂) _ _); refine Hold.out ?_))
local macro_rules | `(tactic| walk_at "no such place") => `(tactic| fail)
theorem off_P3 : True := by
  w_top off
  trivial
-- Headers.__setitem__ of the next name
theorem set_c {w : World} {mean : ExcName → Option Value} {mg mb : Str → Option Value} {dp un : Nat} {gd : Option (List Code)} {cn : Str} {cs : Scope} {a : Addr} {ccd : Value} {cl : List (Str × Addr)} {outer : List Env} {A₀ : Around} {base h₀ : Heap} {L : Addr} {m : Str → Option Value} {s : Shared}
    {Q E : Value → Shared → Prop} (B : Below A₀ base outer h₀) (F : Fr h₀ L s.heap m) (X : (hd.heap_39 w.params).In h₀) (T : Top hd.view_39 LS mean mg mb h₀) (hk : cs.kind = .function) (hdd : dp + 5 < recursionLimit) (hu : un + 40 < cLine)
    {rest : List (Addr × Obj)} {tb dx Lh : Addr} {hh : Int} {kt : Tok} {n nn : Nat} {vs : List Value} {ts : List Int} {t t2 : Tok} {k : Nat}
    (N : News h₀ L s.heap ((Lh, listOf vs.toArray nn) :: rest)) (hoff : ∀ p ∈ rest, p.1 ≠ Lh) (m1 : (tb, instObj 192 dx) ∈ rest) (m2 : (dx, dictOf [⟨hh, .str (Str.ofString "_headers") kt, .ref Lh⟩] n) ∈ rest)
    (hall : DatAll rest vs (rowsD ts)) (hlt : ts.length < 12) (hk1 : 1 ≤ k) (hk2 : k ≤ 12)
    (hret : ∀ v q t3 t4 tn nn' h' tk', Fr h₀ L h' m → News h₀ L h' ((Lh, listOf (vs ++ [Value.ref q]).toArray nn') :: (q, ({ cls := .type "tuple", data := .seq [Value.str (loL ts.length) t3, Value.str (numS k) t4].toArray tn } : Obj)) :: rest) → (∀ p ∈ rest, p.1 ≠ q) → q ≠ Lh → Q v { s with heap := h', toks := tk' }) :
    wpAny (model PySem.Challenge.rw_we0022_01.row.prog w) (ktrTop dp un gd cn cs L a ccd cl outer) (call (.ref 105) [.ref tb, .str (loL ts.length) t, .str (numS k) t2]) Q E s := by
  revert X; k_fill; intro X
  have hlow := low_lo ts.length hlt
  have hsr := srch_lo w ts.length hlt
  have hsn := srch_num w k hk1 hk2
  refine wpAny_call ?_
  have hsz : vs.toArray.size ≤ sizeLine := by
    rw [List.size_toArray, hall.length]; simp [rowsD]; rw [sizeLine_eq]; omega
  k_dflt ktr_enter
  k_steps
  all_goals (try k_data)
  (rename _ ∧ AllLt _ _ => l1)
  (with_reducible rename News h₀ L _ _ => kN)
  rw [List.push_toArray] at kN
  exact hret .none _ t t2 0 _ _ _ (by k_asm) (news_swap kN) (fun p hp => Nat.ne_of_lt (ktn_ltOf l1.2 p hp)) (Nat.ne_of_gt l1.1)
theorem set_use {w : World} {mean : ExcName → Option Value} {mg mb : Str → Option Value} {dp un : Nat} {gd : Option (List Code)} {cn : Str} {cs : Scope} {a : Addr} {ccd : Value} {cl : List (Str × Addr)} {outer : List Env} {A₀ : Around} {base h₀ : Heap} {L : Addr} {m : Str → Option Value} {s : Shared}
    {Q E : Value → Shared → Prop} (B : Below A₀ base outer h₀) (F : Fr h₀ L s.heap m) (X : (hd.heap_39 w.params).In h₀) (T : Top hd.view_39 LS mean mg mb h₀) (hk : cs.kind = .function) (hdd : dp + 5 < recursionLimit) (hu : un + 40 < cLine)
    {rest : List (Addr × Obj)} {tb dx Lh : Addr} {hh : Int} {kt : Tok} {n nn : Nat} {vs : List Value} {ts : List Int} {x y : Str} {t t2 : Tok} {k : Nat} (hx : x = loL ts.length) (hy : y = numS k)
    (N : News h₀ L s.heap ((Lh, listOf vs.toArray nn) :: rest)) (hoff : ∀ p ∈ rest, p.1 ≠ Lh) (m1 : (tb, instObj 192 dx) ∈ rest) (m2 : (dx, dictOf [⟨hh, .str (Str.ofString "_headers") kt, .ref Lh⟩] n) ∈ rest)
    (hall : DatAll rest vs (rowsD ts)) (hlt : ts.length < 12) (hk1 : 1 ≤ k) (hk2 : k ≤ 12)
    (hret : ∀ v q t3 t4 tn nn' h' tk', Fr h₀ L h' m → News h₀ L h' ((Lh, listOf (vs ++ [Value.ref q]).toArray nn') :: (q, ({ cls := .type "tuple", data := .seq [Value.str (loL ts.length) t3, Value.str (numS k) t4].toArray tn } : Obj)) :: rest) → (∀ p ∈ rest, p.1 ≠ q) → q ≠ Lh → Q v { s with heap := h', toks := tk' }) :
    wpAny (model PySem.Challenge.rw_we0022_01.row.prog w) (ktrTop dp un gd cn cs L a ccd cl outer) (call (.ref 105) [.ref tb, .str x t, .str y t2]) Q E s := by
  subst hx hy
  exact set_c B F X T hk hdd hu N hoff m1 m2 hall hlt hk1 hk2 hret
end
section
local macro_rules | `(tactic| ktr_enter) => `(tactic| first | (refine' code_def ?k1 ?k2 ?k3 ?k4 ?k5 ?kA ?kF ?kK ?k6 ?k7 ?k8 ?k9 ?kB ?_ ?c2 ?c3 ?c4 ?c5; (case kA => exact rfl); (case kF => exact rfl); (case kK => first | exact rfl | assumption); (case k1 => k_asm); (case k2 => k_asm); (case k3 => k_asm); (case k4 => k_asm); (case k5 => k_asm); (case k6 => k_is); (case k7 => k_is); (case k8 => ktr_room); (case k9 => first | exact BindsTo.of_eq rfl | exact binds_K (by k_in) rfl (by k_is) rfl rfl rfl); (case c5 => decide); (case kB => exact locs rfl); (case c2 => exact rfl); (case c3 => exact rfl); (case c4 => exact rfl); k_whole; intro g' L' h' FG' F' N' B' X' T'; (try dsimp only); (try k_lift B'); (try k_fold)) | (refine' code_defC ?k1 ?k2 ?k3 ?k4 ?k5 ?kA ?kF ?kK ?k6 ?k7 ?k8 ?k9 ?kB ?kD ?_ ?c2 ?c3 ?c4; (case kA => exact rfl); (case kF => exact rfl); (case kK => first | exact rfl | assumption); (case k1 => k_asm); (case k2 => k_asm); (case k3 => k_asm); (case k4 => k_asm); (case k5 => k_asm); (case k6 => k_is); (case k7 => k_is); (case k8 => ktr_room); (case k9 => first | exact BindsTo.of_eq rfl | exact binds_K (by k_in) rfl (by k_is) rfl rfl rfl); (case kB => exact rfl); (case kD => decide +kernel); (case c2 => exact rfl); (case c3 => exact rfl); (case c4 => exact rfl); k_whole; intro g' L' h' tk' cells' FG' F' N' Y' B' X' T' l1; (try k_lt l1); k_cells Y'; (try simp only [List.cons_append, List.nil_append] at N'); (try dsimp only); (try k_lift B'); (try k_fold)))
local macro_rules | `(tactic| walk_at "call builtin:str.lower") => `(tactic| (k_here; (with_reducible show wpAny _ _ (call (Value.builtin "str.lower") [Value.str _ _]) _ _ _); k_dflt (refine' lower_to ?k1 ?k2 ?_; (case k1 => assumption); (case k2 => first | exact Nat.le_of_ble_eq_true rfl | assumption); k_whole); intro t' k'))
local macro_rules | `(tactic| walk_at "getMethod ref") => `(tactic| (k_here; (with_reducible show wpAny _ _ (getMethod (Value.ref _) (PySem.Str.ofString "search") _) _ _ _); k_dflt (refine' search_meth ?k1 ?k2 ?_; (case k1 => k_in); (case k2 => first | exact Or.inl rfl | exact Or.inr rfl); k_whole)))
local macro_rules | `(tactic| walk_at "call builtin:re.Pattern.search") => `(tactic| (k_here; (with_reducible show wpAny _ _ (call (Value.builtin "re.Pattern.search") [Value.ref _, Value.str _ _]) _ _ _); k_dflt (refine' search_none ?k1 ?k2 ?k3 ?_; (case k1 => k_in); (case k2 => first | exact Or.inl rfl | exact Or.inr rfl); (case k3 => assumption); k_whole)))
local macro_rules | `(tactic| k_room) => `(tactic| ktr_room)
local macro_rules | `(tactic| ktn_open) => `(tactic| first | exact agree_base (by assumption) | (refine' agree_step ?q1 ?q2 ?q3; (case q1 => assumption); (case q2 => decide +kernel); (case q3 => ktn_open)) | (refine' agree_in ?q1 ?q2 ?q3; (case q1 => assumption); (case q2 => decide +kernel); (case q3 => ktn_open)) | (dsimp only; ktn_open))
local macro_rules | `(tactic| k_mem) => `(tactic| (refine mem_of ?_; ktr_member))
local macro_rules | `(tactic| k_all) => `(tactic| first | assumption | (refine' off_rest ?q1 ?q2; (case q1 => first | assumption | exact restLt_of (by assumption)); (case q2 => (try dsimp only); omega)))
local macro_rules | `(tactic| walk_at "eval ListComp") => `(tactic| (k_here; refine Hold.out ?_))
local macro_rules | `(tactic| walk_at "call ref") => `(tactic| (k_here; (with_reducible show wpAny _ _ (call (Value.ref 110) [Value.ref _, Value.str _ _]) _ _ _); k_dflt (refine' del_c ?k1 ?k2 ?k3 ?k4 ?k5 ?k6 ?k7 ?k8 ?k9 ?k10 ?k11 ?k12 ?k13 ?_; (case k1 => k_asm); (case k2 => k_asm); (case k3 => k_asm); (case k4 => k_asm); (case k5 => first | exact rfl | assumption); (case k8 => k_asm); (case k9 => k_asm); (case k10 => k_asm); (case k11 => k_asm); (case k12 => k_asm); (case k13 => k_asm); (case k6 => ktr_room); (case k7 => ktr_units)); intro v' nn' h' tk' F' N'; (try k_sweep)))
local macro_rules | `(tactic| walk_at "delItem ref") => `(tactic| (k_here; (with_reducible show wpAny _ _ (delItem (Value.ref _) _) _ _ _); k_dflt (refine' delItem_own ?F ?X ?I ?hQ ?hS ?hF ?_; (case F => k_asm); (case X => k_asm); (case I => k_inst); (case hS => k_is); (case hF => k_is); (case hQ => k_is); k_whole)))
local macro_rules | `(tactic| walk_at "call builtin:list.append") => `(tactic| (k_here; (with_reducible show wpAny _ _ (call (Value.builtin _) [Value.ref _, _]) _ _ _); k_dflt (refine' append_K ?k1 ?k2 ?k3 ?_ ?z; (case k1 => k_asm); (case k2 => k_asm); (case k3 => k_upd); (case z => assumption); k_whole); intro h' F' N'; (try k_sweep)))
local macro_rules | `(tactic| walk_at "exec For Name Call cons nil") => `(tactic| (k_here; refine Hold.out ?_))
local macro_rules | `(tactic| walk_at "exec For Tuple Name cons nil") => `(tactic| (k_here; refine Hold.out ?_))
local macro_rules | `(tactic| walk_at "exec For Tuple Attribute cons nil") => `(tactic| (k_here; refine Hold.out ?_))
local macro_rules | `(tactic| walk_at "exec While UnaryOp cons nil") => `(tactic| (k_here; refine Hold.out ?_))
local macro_rules | `(tactic| walk_at "exec While Compare cons nil") => `(tactic| (k_here; refine Hold.out ?_))
local macro_rules | `(tactic| walk_at "pyIter ref") => `(tactic| (k_here; (with_reducible show wpAny _ _ (pyIter (Value.ref _)) (fun it s₂ => LoopAtV _ _ _ _ _ _ _ _ _ it s₂) _ _); refine Hold.out ?_))
theorem off_P4 : True := by
  w_top off
  trivial
local macro_rules | `(tactic| walk_at "call ref") => `(tactic| (k_here; (show wpAny _ _ (call (Value.ref 139) _ _) _ _ _); refine Hold.out ?_))
local macro_rules | `(tactic| walk_at "call ref") => `(tactic| (k_here; (show wpAny _ _ (call (Value.ref 105) _ _) _ _ _); refine Hold.out ?_))
-- _law_played
def seekT (ms ts : List Int) (n : Nat) : Nat → Nat → Nat
  | 0, take => take
  | f + 1, take => if take = n + 1 then take else if ms.getD (take - 1) 0 < ts.getD (n - take) 0 then take else seekT ms ts n f (take + 1)
def nextT (ms ts : List Int) : Nat := seekT ms ts ts.length 12 1
def playT (ms : List Int) : Nat → List Int
  | 0 => []
  | n + 1 => playT ms n ++ [(nextT ms (playT ms n) : Int)]
theorem playT_length (ms : List Int) : ∀ n, (playT ms n).length = n
  | 0 => rfl
  | n + 1 => by simp [playT, playT_length ms n]
theorem seek_bounds (ms ts : List Int) (n : Nat) : ∀ f take, take ≤ n + 1 → n + 1 ≤ take + f → take ≤ seekT ms ts n f take ∧ seekT ms ts n f take ≤ n + 1
  | 0, take, h1, _ => ⟨Nat.le_refl _, h1⟩
  | f + 1, take, h1, h2 => by
    unfold seekT
    split
    · omega
    · split
      · omega
      · have := seek_bounds ms ts n f (take + 1) (by omega) (by omega)
        omega
theorem seek_succ (ms ts : List Int) (n f take : Nat) : seekT ms ts n (f + 1) take = if take = n + 1 then take else if ms.getD (take - 1) 0 < ts.getD (n - take) 0 then take else seekT ms ts n f (take + 1) := rfl
theorem seek_brk {ms ts : List Int} {n q : Nat} (hq : q ≤ 12) (h : ms.getD (q - 1) 0 < ts.getD (n - q) 0) : seekT ms ts n (13 - q) q = q := by
  obtain ⟨f, hf⟩ : ∃ f, 13 - q = f + 1 := ⟨12 - q, by omega⟩
  rw [hf, seek_succ]
  by_cases e : q = n + 1
  · rw [if_pos e]
  · rw [if_neg e, if_pos h]
theorem seek_end {ms ts : List Int} {n q : Nat} (hq : q = n + 1) : ∀ f, seekT ms ts n f q = q
  | 0 => rfl
  | f + 1 => by rw [seek_succ, if_pos hq]
theorem seek_go {ms ts : List Int} {n q : Nat} (hq : q ≤ 12) (hn : q ≠ n + 1) (h : ¬ ms.getD (q - 1) 0 < ts.getD (n - q) 0) : seekT ms ts n (13 - q) q = seekT ms ts n (13 - (q + 1)) (q + 1) := by
  obtain ⟨f, hf⟩ : ∃ f, 13 - q = f + 1 := ⟨12 - q, by omega⟩
  have : 13 - (q + 1) = f := by omega
  rw [hf, this, seek_succ, if_neg hn, if_neg h]
theorem next_bounds (ms : List Int) (n : Nat) (hn : n < 12) : 1 ≤ nextT ms (playT ms n) ∧ nextT ms (playT ms n) ≤ n + 1 := by
  unfold nextT
  rw [playT_length]
  exact seek_bounds ms _ n 12 1 (by omega) (by omega)
theorem play_bounds (ms : List Int) : ∀ n, n ≤ 12 → ∀ x ∈ playT ms n, 1 ≤ x ∧ x ≤ 12
  | 0, _, x, hx => by simp [playT] at hx
  | n + 1, hn, x, hx => by
    rcases List.mem_append.mp hx with hx | hx
    · exact play_bounds ms n (by omega) x hx
    · rw [List.mem_singleton.mp hx]
      have := next_bounds ms n (by omega)
      omega
theorem rows_snoc (ts : List Int) (k : Int) : rowsD (ts ++ [k]) = rowsD ts ++ [rowD ts.length k] := by
  simp [rowsD, List.mapIdx_append]
theorem item_up : ∀ j, j < 12 → Txt.item (Str.ofString "ABCDEFGHIJKL") ((j : Nat) : Int) = upL j := by decide +kernel
theorem item_lo : ∀ j, j < 12 → Txt.item (Str.ofString "abcdefghijkl") ((j : Nat) : Int) = loL j := by decide +kernel
theorem dat_row {news : List (Addr × Obj)} {vs : List Value} {ts : List Int} {q : Addr} {n : Nat} {k : Int} {t u : Tok} (h : DatAll news vs (rowsD ts)) :
    DatAll ((q, ({ cls := .type "tuple", data := .seq [Value.str (loL ts.length) t, Value.str (numS k) u].toArray n } : Obj)) :: news) (vs ++ [Value.ref q]) (rowsD (ts ++ [k])) := by
  rw [rows_snoc]
  exact DatAll.append (DatAll.mono (fun p hp => .tail _ hp) h) (DatAll.one (DatIn.tuple (.head _) (.cons (.str _ _) (.cons (.str _ _) .nil))))
def pa1 {g h : Heap} {L : Addr} {p : Addr × Obj} {r : List (Addr × Obj)} (_ : News g L h (p :: r)) : Addr := p.1
def ad2 {g h : Heap} {L : Addr} {p q : Addr × Obj} {r : List (Addr × Obj)} (_ : News g L h (p :: q :: r)) : Addr := q.1
def ad3 {g h : Heap} {L : Addr} {p q o : Addr × Obj} {r : List (Addr × Obj)} (_ : News g L h (p :: q :: o :: r)) : Addr := o.1
def po2 {g h : Heap} {L : Addr} {p q : Addr × Obj} {r : List (Addr × Obj)} (_ : News g L h (p :: q :: r)) : Obj := q.2
structure PInv (x d lh : Addr) (od : Obj) (news : List (Addr × Obj)) (ms : List Int) (i : Nat) (nx : List (Addr × Obj)) : Prop where
  out : ∃ vs nn rest, nx = (lh, listOf vs.toArray nn) :: rest ∧ (∀ p ∈ rest, p.1 ≠ lh) ∧ (x, instObj 192 d) ∈ rest ∧ (d, od) ∈ rest ∧ (∀ p ∈ news, p ∈ rest) ∧ DatAll rest vs (rowsD (playT ms i))
theorem played_end {g h' : Heap} {L : Addr} {m' : Str → Option Value} {s₁ : Shared} {tk' : Nat} {x d lh qa : Addr} {od : Obj} {o₀ : Obj} {news rest rest2 own : List (Addr × Obj)} {ms : List Int} {i q nn' tn : Nat} {vs : List Value} {t3 t4 : Tok} {ag : (Str → Option Value) → Prop}
    (F : Fr g L h' m') (N : News g L h' ((lh, listOf (vs ++ [Value.ref qa]).toArray nn') :: (qa, ({ cls := .type "tuple", data := .seq [Value.str (loL (playT ms i).length) t3, Value.str (numS q) t4].toArray tn } : Obj)) :: rest2)) (hag : ag m')
    (hoff : OwnOff own (((lh, o₀) :: rest).map (·.1))) (ho : ∀ p ∈ rest, p.1 ≠ lh) (mx : (x, instObj 192 d) ∈ rest) (md : (d, od) ∈ rest) (hnews : ∀ p ∈ news, p ∈ rest) (hall : DatAll rest vs (rowsD (playT ms i)))
    (hqn : q = nextT ms (playT ms i)) (o1 : ∀ p ∈ rest2, p.1 ≠ qa) (o2 : qa ≠ lh) (hs1 : ∀ p ∈ rest, p ∈ rest2) (hs2 : ∀ p ∈ own, p ∈ rest2) :
    InvEndG g L (fun m' nx' => ag m' ∧ PInv x d lh od news ms (i + 1) nx') own s₁ { s₁ with heap := h', toks := tk' } := by
  refine InvEndG.intro F N (nx := (lh, listOf (vs ++ [Value.ref qa]).toArray nn') :: (qa, ({ cls := .type "tuple", data := .seq [Value.str (loL (playT ms i).length) t3, Value.str (numS q) t4].toArray tn } : Obj)) :: rest) ⟨hag, ⟨_, _, _, rfl, ?_, .tail _ mx, .tail _ md, fun p hp => .tail _ (hnews p hp), ?_⟩⟩ ?_ ?_ ?_
  · intro p hp
    rcases List.mem_cons.mp hp with rfl | hp
    · exact o2
    · exact ho p hp
  · show DatAll _ _ (rowsD (playT ms i ++ [((nextT ms (playT ms i) : Nat) : Int)]))
    rw [← hqn]
    exact dat_row hall
  · intro p hp b hb
    rcases List.mem_cons.mp hb with rfl | hb
    · exact hoff p hp _ (.head _)
    · rcases List.mem_cons.mp hb with rfl | hb
      · exact o1 p (hs2 p hp)
      · exact hoff p hp _ (.tail _ hb)
  · intro p hp
    rcases List.mem_cons.mp hp with rfl | hp
    · exact .head _
    · rcases List.mem_cons.mp hp with rfl | hp
      · exact .tail _ (.head _)
      · exact .tail _ (.tail _ (hs1 p hp))
  · exact fun p hp => .tail _ (.tail _ (hs2 p hp))
theorem played_c {w : World} {mean : ExcName → Option Value} {mg mb : Str → Option Value} {dp un : Nat} {gd : Option (List Code)} {cn : Str} {cs : Scope} {a : Addr} {ccd : Value} {cl : List (Str × Addr)} {outer : List Env} {A₀ : Around} {base h₀ : Heap} {L : Addr} {m : Str → Option Value} {s : Shared}
    {Q E : Value → Shared → Prop} (B : Below A₀ base outer h₀) (F : Fr h₀ L s.heap m) (X : (hd.heap_39 w.params).In h₀) (T : Top hd.view_39 LS mean mg mb h₀) (hk : cs.kind = .function) (hdd : dp + 9 < recursionLimit) (hu : un + 72 < cLine)
    {news : List (Addr × Obj)} {mk : Addr} {mn : Nat} {mvs : List Value} {ms : List Int}
    (N : News h₀ L s.heap news) (m1 : (mk, listOf mvs.toArray mn) ∈ news) (hms : IntsAre mvs ms) (hml : ms.length = 12) (hmb : ∀ x ∈ ms, 0 ≤ x ∧ x ≤ 1000)
    (hret : ∀ r vs nn tl h' tk', Fr h₀ L h' m → News h₀ L h' ((r, listOf vs.toArray nn) :: (tl ++ news)) → DatAll tl vs (rowsD (playT ms 12)) → Q (.ref r) { s with heap := h', toks := tk' }) :
    wpAny (model PySem.Challenge.rw_we0022_01.row.prog w) (ktrTop dp un gd cn cs L a ccd cl outer) (call (.ref 208) [.ref mk]) Q E s := by
  revert X; k_fill; intro X
  refine wpAny_call ?_
  k_dflt ktr_enter
  k_steps
  all_goals (try k_data)
  refine Hold.mk ?_
  (with_reducible rename Fr _ _ _ _ => F1)
  refine For_unrF F1 ?_ (fun _ => rfl)
  k_steps
  all_goals (try k_data)
  refine Hold.mk ?_
  try clear F1
  (with_reducible rename Fr _ _ _ _ => F1)
  (with_unfolding_all refine' For_invVF F1 ?k1 ?k2 ?_)
  case k1 => exact rfl
  case k2 => exact rfl
  k_steps
  all_goals (try k_data)
  refine Hold.mk ?_
  try clear F1
  (with_reducible rename Fr _ _ _ _ => F1)
  (with_reducible rename News _ _ _ _ => N1)
  (with_reducible rename IsRange _ _ _ _ _ _ _ _ => hr)
  obtain ⟨x, ex⟩ : ∃ x, x = pa1 N1 := ⟨_, rfl⟩
  dsimp only [pa1] at ex
  subst ex
  obtain ⟨d, ex⟩ : ∃ x, x = ad2 N1 := ⟨_, rfl⟩
  dsimp only [ad2] at ex
  subst ex
  obtain ⟨lh, ex⟩ : ∃ x, x = ad3 N1 := ⟨_, rfl⟩
  dsimp only [ad3] at ex
  subst ex
  (rename lh < d ∧ _ => l1)
  (rename d < x => l2)
  (rename ∀ p ∈ news, p.1 < lh => l0)
  obtain ⟨od, eod⟩ : ∃ x, x = po2 N1 := ⟨_, rfl⟩
  dsimp only [po2] at eod
  have N2 := news_rot N1
  refine' for_range [Str.ofString "heap", Str.ofString "take", Str.ofString "least"] (fun i nx => PInv x d lh od news ms i nx) ?hh ?hr ?hsm ?hsz ?FF ?NN ?h0 ?turn ?done
  case hh => exact rfl
  case hr => exact hr
  case hsm => decide +kernel
  case hsz => exact (by decide +kernel : Builtin.Range.rangeSize 1 13 1 = ((12 : Nat) : Int))
  case FF => exact F1
  case NN => exact N2
  case h0 =>
    refine ⟨[], 0, _, rfl, ?_, .head _, by rw [eod]; exact .tail _ (.head _), fun p hp => .tail _ (.tail _ hp), ?_⟩
    · intro p hp
      rcases List.mem_cons.mp hp with rfl | hp
      · exact Nat.ne_of_gt (Nat.lt_trans l1.1 l2)
      · rcases List.mem_cons.mp hp with rfl | hp
        · exact Nat.ne_of_gt l1.1
        · exact Nat.ne_of_lt (l0 p hp)
    · exact .nil
  case turn =>
    clear N1 N2 hr
    rintro i t u nx h tk own hi hoff ⟨vs, nn, rest, rfl, ho, mx, md, hnews, hall⟩ F2 N2
    clear F1
    obtain ⟨rest2, er⟩ : ∃ r, r = rest ++ own := ⟨_, rfl⟩
    have N3 := led_split N2
    rw [← er] at N3
    clear N2
    have hs1 : ∀ p ∈ rest, p ∈ rest2 := fun p hp => by rw [er]; exact List.mem_append_left _ hp
    have hs2 : ∀ p ∈ own, p ∈ rest2 := fun p hp => by rw [er]; exact List.mem_append_right _ hp
    have ho2 : ∀ p ∈ rest2, p.1 ≠ lh := fun p hp => by
      rw [er] at hp
      rcases List.mem_append.mp hp with hp | hp
      · exact ho p hp
      · exact hoff p hp lh (.head _)
    have mx2 := hs1 _ mx
    have md2 := hs1 _ md
    rw [eod] at md2
    have mm2 := hs1 _ (hnews _ m1)
    have hall2 := DatAll.mono hs1 hall
    clear er
    k_steps
    all_goals (try k_data)
    refine Hold.mk ?_
    (with_reducible rename Fr _ _ _ _ => F3)
    (with_reducible rename News _ _ _ _ => N4)
    refine' while_int [Str.ofString "take", Str.ofString "least"] (Str.ofString "take") (fun k => ∃ q : Nat, k = (q : Int) ∧ 1 ≤ q ∧ q ≤ i + 1 ∧ seekT ms (playT ms i) i (13 - q) q = nextT ms (playT ms i)) (fun k => (13 - k).toNat) ?FF ?NN ?hx ?hp ?turn
    case FF => exact F3
    case NN => exact N4
    case hx => exact rfl
    case hp => exact ⟨1, rfl, Nat.le_refl _, by omega, by rw [nextT, playT_length]⟩
    case turn =>
      rintro k t u h₁ tk₁ ⟨q, rfl, hq1, hq2, hseek⟩ F4 N5
      have hi12 : i < 12 := hi
      have hlen : (playT ms i).length = i := playT_length ms i
      clear F3 N4
      k_steps
      all_goals (try k_data)
      · (rename 1 + (i : Int) - (q : Int) = 0 => hz)
        have hqn : q = nextT ms (playT ms i) := by rw [← hseek]; exact (seek_end (by omega) _).symm
        refine Hold.mk ?_
        (with_reducible rename Fr _ _ _ _ => F6)
        (with_reducible rename News _ _ _ _ => N6)
        have hL : Txt.item (Str.ofString "abcdefghijkl") (1 + (i : Int) - 1) = loL (playT ms i).length := by
          rw [hlen]
          have := item_lo i hi12
          have e : (1 + (i : Int) - 1) = (i : Int) := by omega
          rw [e]; exact this
        k_dflt (refine' set_use (ts := playT ms i) (k := q) ?kB ?kF ?kX ?kT ?kk ?kd ?ku ?kx ?ky ?kN ?ko ?km1 ?km2 ?kh ?kl ?kq1 ?kq2 ?kr)
        case kB => k_asm
        case kF => exact F6
        case kX => k_asm
        case kT => k_asm
        case kk => exact rfl
        case kd => ktr_room
        case ku => ktr_units
        case kx => exact hL
        case ky => exact rfl
        case kN => exact N6
        case ko => exact ho2
        case km1 => exact mx2
        case km2 => exact md2
        case kh => exact hall2
        case kl => rw [hlen]; exact hi12
        case kq1 => exact hq1
        case kq2 => omega
        case kr =>
          intro v' qa t3 t4 tn nn' h' tk' F7 N7 o1 o2
          clear F6 N6
          (try dsimp only)
          (try k_fold)
          k_steps
          all_goals (try k_data)
          refine played_end F7 N7 ?_ hoff ho mx md hnews hall hqn o1 o2 hs1 hs2
          intro y hy
          ktn_open
      · refine Hold.mk ?_
        (with_reducible rename Fr _ _ _ _ => F6)
        (with_reducible rename News _ _ _ _ => N6)
        (rename 1 + (i : Int) - (q : Int) ≠ 0 => hz)
        have hq3 : q ≤ i := by omega
        have hX : Txt.item (Str.ofString "ABCDEFGHIJKL") (1 + (i : Int) - (q : Int) - 1) = upL (i - q) := by
          have := item_up (i - q) (by omega)
          have e : (1 + (i : Int) - (q : Int) - 1) = ((i - q : Nat) : Int) := by omega
          rw [e]; exact this
        have hT : 1 ≤ (playT ms i).getD (i - q) 0 ∧ (playT ms i).getD (i - q) 0 ≤ 12 := by
          have hj : i - q < (playT ms i).length := by rw [hlen]; omega
          have e : (playT ms i).getD (i - q) 0 = (playT ms i)[i - q] := by simp [List.getD, hj]
          rw [e]
          exact play_bounds ms i (by omega) _ (List.getElem_mem hj)
        k_dflt (refine' get_use (ts := playT ms i) (j := i - q) ?kB ?kF ?kX ?kT ?kk ?kd ?ku ?kx ?kN ?km1 ?km2 ?km3 ?kh ?kl ?kj ?kr)
        case kB => k_asm
        case kF => exact F6
        case kX => k_asm
        case kT => k_asm
        case kk => exact rfl
        case kd => ktr_room
        case ku => ktr_units
        case kx => exact hX
        case kN => exact N6
        case km1 => exact .tail _ mx2
        case km2 => exact .tail _ md2
        case km3 => exact .head _
        case kh => exact DatAll.mono (fun p hp => .tail _ hp) hall2
        case kl => rw [hlen]; omega
        case kj => rw [hlen]; omega
        case kr =>
          intro t' h' tk' F7 N7
          clear F6 N6
          (try dsimp only)
          (try k_fold)
          k_steps
          all_goals (try k_data)
          · (rename 256 + ms.getD ((q : Int) - 1).toNat 0 - _ < 256 => hb)
            have eq1 : ((q : Int) - 1).toNat = q - 1 := by omega
            rw [eq1] at hb
            have hqn : q = nextT ms (playT ms i) := by rw [← hseek]; exact (seek_brk (by omega) (by omega)).symm
            dsimp only [WhileStep2]
            k_steps
            all_goals (try k_data)
            refine Hold.mk ?_
            (with_reducible rename Fr _ _ _ _ => F6)
            (with_reducible rename News _ _ _ _ => N6)
            have hL : Txt.item (Str.ofString "abcdefghijkl") (1 + (i : Int) - 1) = loL (playT ms i).length := by
              rw [hlen]
              have := item_lo i hi12
              have e : (1 + (i : Int) - 1) = (i : Int) := by omega
              rw [e]; exact this
            k_dflt (refine' set_use (ts := playT ms i) (k := q) ?kB ?kF ?kX ?kT ?kk ?kd ?ku ?kx ?ky ?kN ?ko ?km1 ?km2 ?kh ?kl ?kq1 ?kq2 ?kr)
            case kB => k_asm
            case kF => exact F6
            case kX => k_asm
            case kT => k_asm
            case kk => exact rfl
            case kd => ktr_room
            case ku => ktr_units
            case kx => exact hL
            case ky => exact rfl
            case kN => exact N6
            case ko => exact ho2
            case km1 => exact mx2
            case km2 => exact md2
            case kh => exact hall2
            case kl => rw [hlen]; exact hi12
            case kq1 => exact hq1
            case kq2 => omega
            case kr =>
              intro v' qa t3 t4 tn nn' h' tk' F7 N7 o1 o2
              clear F6 N6
              (try dsimp only)
              (try k_fold)
              k_steps
              all_goals (try k_data)
              refine played_end F7 N7 ?_ hoff ho mx md hnews hall hqn o1 o2 hs1 hs2
              intro y hy
              ktn_open
          · (rename ¬ (256 + ms.getD ((q : Int) - 1).toNat 0 - _ < 256) => hb)
            have eq1 : ((q : Int) - 1).toNat = q - 1 := by omega
            rw [eq1] at hb
            (with_reducible rename Fr _ _ _ _ => F8)
            (with_reducible rename News _ _ _ _ => N8)
            refine ⟨_, _, _, _, _, rfl, F8, N8, ?_, rfl, ?_, _, _, rfl, ⟨q + 1, by omega, by omega, by omega, ?_⟩, rfl⟩
            · omega
            · intro y hy
              ktn_open
            · rw [← hseek]; exact (seek_go (by omega) (by omega) (by omega)).symm
  case done =>
    clear N1 N2 hr
    rintro u nx h tk ⟨vs, nn, rest, rfl, ho, mx, md, hnews, hall⟩ F2 N2
    clear F1
    rw [eod] at md
    dsimp only
    k_steps
    all_goals (try k_data)
    (with_reducible rename Fr _ _ _ _ => F5)
    (with_reducible rename News _ _ _ _ => N5)
    have hsz : vs.toArray.size ≤ sizeLine := by
      have := hall.length
      rw [rowsD, List.length_mapIdx, playT_length] at this
      rw [List.size_toArray, this, sizeLine_eq]
      decide
    k_dflt (refine' kmk_slice ?sF ?sN ?sl ?sp ?sq ?ss ?st ?sw ?sz)
    case sF => k_asm
    case sN => k_asm
    case sl => exact news_list N5 (.head _)
    case sp => exact IsPart.none
    case sq => exact IsPart.none
    case st => with_unfolding_all rfl
    case sw => kmk_pure
    case sz => exact hsz
    intro D h' F' N' l1
    rw [slicePick_all] at N'
    k_steps
    all_goals (try k_data)
    (with_reducible rename Fr _ _ _ _ => F9)
    (with_reducible rename News _ _ _ _ => N9)
    refine hret D vs 0 rest _ _ ?_ ?_ hall
    · exact F9
    · intro p hp
      rcases List.mem_cons.mp hp with rfl | hp
      · exact N9 _ (.head _)
      · rcases List.mem_append.mp hp with hp | hp
        · exact N9 _ (.tail _ (.tail _ hp))
        · exact N9 _ (.tail _ (.tail _ (hnews _ hp)))
end
section
local macro_rules | `(tactic| ktr_enter) => `(tactic| first | (refine' code_def ?k1 ?k2 ?k3 ?k4 ?k5 ?kA ?kF ?kK ?k6 ?k7 ?k8 ?k9 ?kB ?_ ?c2 ?c3 ?c4 ?c5; (case kA => exact rfl); (case kF => exact rfl); (case kK => first | exact rfl | assumption); (case k1 => k_asm); (case k2 => k_asm); (case k3 => k_asm); (case k4 => k_asm); (case k5 => k_asm); (case k6 => k_is); (case k7 => k_is); (case k8 => ktr_room); (case k9 => first | exact BindsTo.of_eq rfl | exact binds_K (by k_in) rfl (by k_is) rfl rfl rfl); (case c5 => decide); (case kB => exact locs rfl); (case c2 => exact rfl); (case c3 => exact rfl); (case c4 => exact rfl); k_whole; intro g' L' h' FG' F' N' B' X' T'; (try dsimp only); (try k_lift B'); (try k_fold)) | (refine' code_defC ?k1 ?k2 ?k3 ?k4 ?k5 ?kA ?kF ?kK ?k6 ?k7 ?k8 ?k9 ?kB ?kD ?_ ?c2 ?c3 ?c4; (case kA => exact rfl); (case kF => exact rfl); (case kK => first | exact rfl | assumption); (case k1 => k_asm); (case k2 => k_asm); (case k3 => k_asm); (case k4 => k_asm); (case k5 => k_asm); (case k6 => k_is); (case k7 => k_is); (case k8 => ktr_room); (case k9 => first | exact BindsTo.of_eq rfl | exact binds_K (by k_in) rfl (by k_is) rfl rfl rfl); (case kB => exact rfl); (case kD => decide +kernel); (case c2 => exact rfl); (case c3 => exact rfl); (case c4 => exact rfl); k_whole; intro g' L' h' tk' cells' FG' F' N' Y' B' X' T' l1; (try k_lt l1); k_cells Y'; (try simp only [List.cons_append, List.nil_append] at N'); (try dsimp only); (try k_lift B'); (try k_fold)))
local macro_rules | `(tactic| walk_at "call builtin:str.lower") => `(tactic| (k_here; (with_reducible show wpAny _ _ (call (Value.builtin "str.lower") [Value.str _ _]) _ _ _); k_dflt (refine' lower_to ?k1 ?k2 ?_; (case k1 => assumption); (case k2 => first | exact Nat.le_of_ble_eq_true rfl | assumption); k_whole); intro t' k'))
local macro_rules | `(tactic| walk_at "getMethod ref") => `(tactic| (k_here; (with_reducible show wpAny _ _ (getMethod (Value.ref _) (PySem.Str.ofString "search") _) _ _ _); k_dflt (refine' search_meth ?k1 ?k2 ?_; (case k1 => k_in); (case k2 => first | exact Or.inl rfl | exact Or.inr rfl); k_whole)))
local macro_rules | `(tactic| walk_at "call builtin:re.Pattern.search") => `(tactic| (k_here; (with_reducible show wpAny _ _ (call (Value.builtin "re.Pattern.search") [Value.ref _, Value.str _ _]) _ _ _); k_dflt (refine' search_none ?k1 ?k2 ?k3 ?_; (case k1 => k_in); (case k2 => first | exact Or.inl rfl | exact Or.inr rfl); (case k3 => assumption); k_whole)))
local macro_rules | `(tactic| k_room) => `(tactic| ktr_room)
local macro_rules | `(tactic| ktn_open) => `(tactic| first | exact agree_base (by assumption) | (refine' agree_step ?q1 ?q2 ?q3; (case q1 => assumption); (case q2 => decide +kernel); (case q3 => ktn_open)) | (refine' agree_in ?q1 ?q2 ?q3; (case q1 => assumption); (case q2 => decide +kernel); (case q3 => ktn_open)) | (dsimp only; ktn_open))
local macro_rules | `(tactic| k_mem) => `(tactic| (refine mem_of ?_; ktr_member))
local macro_rules | `(tactic| k_all) => `(tactic| first | assumption | (refine' off_rest ?q1 ?q2; (case q1 => first | assumption | exact restLt_of (by assumption)); (case q2 => (try dsimp only); omega)))
local macro_rules | `(tactic| walk_at "eval ListComp") => `(tactic| (k_here; refine Hold.out ?_))
local macro_rules | `(tactic| walk_at "call ref") => `(tactic| (k_here; (with_reducible show wpAny _ _ (call (Value.ref 110) [Value.ref _, Value.str _ _]) _ _ _); k_dflt (refine' del_c ?k1 ?k2 ?k3 ?k4 ?k5 ?k6 ?k7 ?k8 ?k9 ?k10 ?k11 ?k12 ?k13 ?_; (case k1 => k_asm); (case k2 => k_asm); (case k3 => k_asm); (case k4 => k_asm); (case k5 => first | exact rfl | assumption); (case k8 => k_asm); (case k9 => k_asm); (case k10 => k_asm); (case k11 => k_asm); (case k12 => k_asm); (case k13 => k_asm); (case k6 => ktr_room); (case k7 => ktr_units)); intro v' nn' h' tk' F' N'; (try k_sweep)))
local macro_rules | `(tactic| walk_at "delItem ref") => `(tactic| (k_here; (with_reducible show wpAny _ _ (delItem (Value.ref _) _) _ _ _); k_dflt (refine' delItem_own ?F ?X ?I ?hQ ?hS ?hF ?_; (case F => k_asm); (case X => k_asm); (case I => k_inst); (case hS => k_is); (case hF => k_is); (case hQ => k_is); k_whole)))
local macro_rules | `(tactic| walk_at "call builtin:list.append") => `(tactic| (k_here; (with_reducible show wpAny _ _ (call (Value.builtin _) [Value.ref _, _]) _ _ _); k_dflt (refine' append_K ?k1 ?k2 ?k3 ?_ ?z; (case k1 => k_asm); (case k2 => k_asm); (case k3 => k_upd); (case z => assumption); k_whole); intro h' F' N'; (try k_sweep)))
local macro_rules | `(tactic| walk_at "exec For Name Call cons nil") => `(tactic| (k_here; refine Hold.out ?_))
local macro_rules | `(tactic| walk_at "exec For Tuple Name cons nil") => `(tactic| (k_here; refine Hold.out ?_))
local macro_rules | `(tactic| walk_at "exec For Tuple Attribute cons nil") => `(tactic| (k_here; refine Hold.out ?_))
local macro_rules | `(tactic| walk_at "exec While UnaryOp cons nil") => `(tactic| (k_here; refine Hold.out ?_))
local macro_rules | `(tactic| walk_at "exec While Compare cons nil") => `(tactic| (k_here; refine Hold.out ?_))
local macro_rules | `(tactic| walk_at "pyIter ref") => `(tactic| (k_here; (with_reducible show wpAny _ _ (pyIter (Value.ref _)) (fun it s₂ => LoopAtV _ _ _ _ _ _ _ _ _ it s₂) _ _); refine Hold.out ?_))
theorem off_PG : True := by
  w_top off
  trivial
-- segments of a generator: rules for statements
section
variable {M : Model} {A : Around} {R : GenEnd} {Y : Protocol} {n : Nat} {s₀ : Shared} {c : Code} {fs : List Frame} {s : Shared} {env : Env} {gd : Bool → Bool} {lv : List Value → List Value}
theorem seg_bindw {α β : Type} {m : Sem α} {f : α → Sem β} {K : β → Sem Fin} {H : Value → Sem Fin}
    (h : wpAny M (A.over c fs) m (fun a s' => Seg M A R Y n s₀ c ((f a).wrap K H gd lv) fs s') (fun x s' => Seg M A R Y n s₀ c (H x) fs s') s) : Seg M A R Y n s₀ c ((m >>= f).wrap K H gd lv) fs s := by
  rw [Sem.bind_eq_wrap', Sem.wrap_wrap]
  exact seg_wrap h
variable {K : Flow → Sem Fin} {H : Value → Sem Fin}
theorem seg_If {test : Expr} {body orelse : List Stmt} {pos : Pos}
    (h : wpAny M (A.over c fs) (isTrue test env (eval test env)) (fun b s' => if b = true then Seg M A R Y n s₀ c ((execs body env).wrap K H gd lv) fs s' else Seg M A R Y n s₀ c ((execs orelse env).wrap K H gd lv) fs s') (fun _ _ => False) s) :
    Seg M A R Y n s₀ c ((exec (.If test body orelse pos) env).wrap K H gd lv) fs s := by
  rw [exec_If]
  refine seg_bindw (wpAny_standAt (seg_bindw (wpAny_mono h (fun b s' hb => ?_) fun _ _ e => e.elim)))
  cases b with
  | true => rw [if_pos rfl] at hb; exact hb
  | false => rw [if_neg Bool.false_ne_true] at hb; exact hb
-- a statement that does not yield, whole
theorem seg_stmt {st : Stmt} (h : wpAny M (A.over c fs) (exec st env) (fun f s' => Seg M A R Y n s₀ c (K f) fs s') (fun _ _ => False) s) : Seg M A R Y n s₀ c ((exec st env).wrap K H gd lv) fs s :=
  seg_wrap (wpAny_mono h (fun _ _ e => e) fun _ _ e => e.elim)
theorem seg_For {target iter : Expr} {body orelse : List Stmt} {pos : Pos}
    (h : wpAny M (A.over c fs) (eval iter env) (fun x s₁ => wpAny M (A.over c fs) (pyIter x) (fun it s₂ => ∀ p, Seg M A R Y n s₀ (.forLoop target it body orelse env) (M.den (.forLoop target it body orelse env))
      (.ret (fun r => ((match r with | .ok f => (.pure f : Sem Flow) | .error e => .raise e).onRaise fun (x : Value) => do
        if (← field x 1) == Value.none then unsupported "frame.own-activation:exception-without-traceback"
        setFlight x env.frame).wrap K H gd lv) none (gd false) (lv []) c p [] :: fs) s₂) (fun _ _ => False) s₁) (fun _ _ => False) s)
    (hs : ∀ x, foldedSetIterable iter env x = pure x) :
    Seg M A R Y n s₀ c ((exec (.For target iter body orelse pos) env).wrap K H gd lv) fs s := by
  rw [exec_For]
  refine seg_bindw (wpAny_standAt (seg_bindw (wpAny_mono h (fun x s₁ h₁ => seg_bindw ?_) fun _ _ e => e.elim)))
  refine wpAny_of_eq (hs x) (seg_bindw (wpAny_standAt (seg_bindw (wpAny_holding (wpAny_mono h₁ (fun it s₂ h₂ => ?_) fun _ _ e => e.elim)))))
  exact seg_call h₂
end
section
variable {prog : Program} {w : World} {A : Around} {R : GenEnd} {Y : Protocol} {n : Nat} {s₀ : Shared} {fs : List Frame} {s : Shared} {env : Env}
theorem seg_forLoop {target : Expr} {it : Value} {body orelse : List Stmt} (ht : ∀ v, letOwnedTupleGo target it v = pure ())
    (h : wpAny (model prog w) (A.over (.forLoop target it body orelse env) fs) (pyNext it) (fun r s' => match r with
      | none => Seg (model prog w) A R Y n s₀ (.forLoop target it body orelse env) (.pure (.again (.block orelse env))) fs s'
      | some v => wpAny (model prog w) (A.over (.forLoop target it body orelse env) fs) (assign target env v) (fun _ s₂ =>
          Seg (model prog w) A R Y n s₀ (.forLoop target it body orelse env) ((execs body env).wrap (fun f => match f with
            | .next | .cont => .pure (.again (.forLoop target it body orelse env))
            | .brk => .pure (.done .next)
            | .ret v => .pure (.done (.ret v))) (fun e => (do noteFrame e env; theTreesLotGoes e : Sem Unit).wrap (fun _ => .raise e) .raise id id) id id) fs s₂) (fun _ _ => False) s') (fun _ _ => False) s) :
    Seg (model prog w) A R Y n s₀ (.forLoop target it body orelse env) ((model prog w).den (.forLoop target it body orelse env)) fs s := by
  show Seg _ A R Y n s₀ _ ((forTurn target it body orelse env).onRaise (fun x => do noteFrame x env; theTreesLotGoes x)) fs s
  unfold forTurn
  rw [Sem.onRaise_eq_wrap]
  refine seg_bindw (wpAny_standAt (seg_bindw (wpAny_onRaise (wpAny_mono h (fun r s' hr => ?_) fun _ _ e => e.elim))))
  cases r with
  | none => exact hr
  | some v =>
    refine seg_bindw (wpAny_of_eq (ht v) (seg_bindw (wpAny_mono hr (fun _ s₂ h₂ => ?_) fun _ _ e => e.elim)))
    rw [Sem.bind_eq_wrap', Sem.wrap_wrap]
    rw [Sem.wrap_congr (execs body env) _ _ (K' := fun f => match f with
            | .next | .cont => .pure (.again (.forLoop target it body orelse env))
            | .brk => .pure (.done .next)
            | .ret v => .pure (.done (.ret v))) (H' := (fun e => (do noteFrame e env; theTreesLotGoes e : Sem Unit).wrap (fun _ => .raise e) .raise id id))
        (fun f => by cases f <;> rfl)
        (fun e => by first | exact Sem.bind_eq_wrap _ _ | (show (do noteFrame e env; theTreesLotGoes e : Sem Unit).bind (fun _ => .raise e) = _; rw [Sem.bind_eq_wrap]))]
    exact h₂
theorem seg_block_nil {k h g l c₁ p₁ kp} (hk : Seg (model prog w) A R Y n s₀ c₁ (k (.ok .next)) fs s) :
    Seg (model prog w) A R Y n s₀ (.block [] env) ((model prog w).den (.block [] env)) (.ret k h g l c₁ p₁ kp :: fs) s := by
  show Seg _ A R Y n s₀ _ (do return Fin.done (← (execs [] env).onRaise (fun x => do noteFrame x env; theTreesLotGoes x))) _ s
  exact seg_leaf (.ok .next) hk
end
-- waking a generator of a function: what it leaves is bare
section
variable {prog : Program} {w : World} {A : Around} {E : Value → Shared → Prop} {s : Shared}
theorem next_genQ {a : Addr} {g n : Nat} {gs : GenState} {P : Nat → Shared → Shared → Prop} {Y : Protocol} {Q : Option Value → Shared → Prop} (hh : A.handled = none)
    (hl : s.heap.NoLimit) (hroom : A.depth < recursionLimit)
    (hg : s.heap.IsGen a g) (hgs : s.gens[g]? = some gs)
    (hgo : gs.Goes (model prog w) A.in1 (fun n s₀ r s₁ => r = .ok (.ret .none) ∧ P n s₀ s₁) Y n (.send .none) (s.setGen g .running))
    (hY : ∀ v s₁ gs', gs'.bare = true → Y (n - 1) (s.setGen g .running) v s₁ (fun r' s'' => match n with
        | 0 => False
        | m + 1 => gs'.Goes (model prog w) A.in1 (fun n s₀ r s₁ => r = .ok (.ret .none) ∧ P n s₀ s₁) Y m r' s'') → Q (some v) (s₁.setGen g gs'))
    (hP : ∀ s₁, P n (s.setGen g .running) s₁ → ∀ h', (∀ b o, s₁.heap.get? b = some o → h'.get? b = some o) → Q none { s₁.setGen g .finished with heap := h' }) :
    wpAny (model prog w) A (pyNext (.ref a)) Q E s := by
  unfold pyNext
  refine wpAny_bind (wpAny_attempt (wpAny_callSpecial?_slot (name := Str.ofString "__next__") hg.typeIs slot_gen_next
    (wpAny_call_entry slot_gen_next hg.typeIs entry_gen_next ?_ (args_gen_next _))))
  show wpAny _ A.in1 (Builtin.Generator.genWake (.ref a) (.send .none)) _ _ s
  unfold Builtin.Generator.genWake
  refine wpAny_bind (wpAny_holding (wpAny_genNumber hg (wpAny_bind (wpAny_genState hgs ?_))))
  cases gs with
  | running => exact hgo.elim
  | finished => exact hgo.elim
  | _ =>
    refine wpAny_bind (wpAny_roomToWake hl hroom ?_)
    show wpAny _ A.in1 (.resume g (.send .none) [] _) _ _ s
    refine wpAny_resumeQ hgs hgo (fun x s₁ hx => ?_) (fun v s₁ gs' hb hv => ?_)
    · obtain ⟨rfl, hp⟩ := hx
      show wpAny _ A.in1 (newExc (.type "StopIteration") [] >>= _) _ _ _
      refine wpAny_bind ?_
      simp only [newExc, newTuple]
      refine wpAny_bind (wpAny_newObj_type ?_ (by size_fits))
      refine wpAny_bind (m := firstArgMember _ _) (wpAny_of_eq (a := Value.none) (by first | rfl | (simp only [firstArgMember]; rfl)) ?_)
      refine wpAny_newObj_type ?_ (by size_fits)
      simp only [raiseNew]
      refine wpAny_bind (wpAny_bind (wpAny_handled ?_))
      first | rw [show A.in1.handled = none from hh] | rw [hh]
      refine wpAny_throw ?_
      refine wpAny_bind (wpAny_isInstance (T := "StopIteration") (b := true) ⟨_, Heap.get?_push_size _ rfl, rfl⟩ isSubtype_stop ?_)
      exact wpAny_pure (hP s₁ hp _ fun b o hb => Heap.get?_push_of_some _ (Heap.get?_push_of_some _ hb))
    · exact wpAny_pure ⟨v, rfl, wpAny_pure (hY v s₁ gs' hb hv)⟩
end
end
section
local macro_rules | `(tactic| ktr_enter) => `(tactic| first | (refine' code_def ?k1 ?k2 ?k3 ?k4 ?k5 ?kA ?kF ?kK ?k6 ?k7 ?k8 ?k9 ?kB ?_ ?c2 ?c3 ?c4 ?c5; (case kA => exact rfl); (case kF => exact rfl); (case kK => first | exact rfl | assumption); (case k1 => k_asm); (case k2 => k_asm); (case k3 => k_asm); (case k4 => k_asm); (case k5 => k_asm); (case k6 => k_is); (case k7 => k_is); (case k8 => ktr_room); (case k9 => first | exact BindsTo.of_eq rfl | exact binds_K (by k_in) rfl (by k_is) rfl rfl rfl); (case c5 => decide); (case kB => exact locs rfl); (case c2 => exact rfl); (case c3 => exact rfl); (case c4 => exact rfl); k_whole; intro g' L' h' FG' F' N' B' X' T'; (try dsimp only); (try k_lift B'); (try k_fold)) | (refine' code_defC ?k1 ?k2 ?k3 ?k4 ?k5 ?kA ?kF ?kK ?k6 ?k7 ?k8 ?k9 ?kB ?kD ?_ ?c2 ?c3 ?c4; (case kA => exact rfl); (case kF => exact rfl); (case kK => first | exact rfl | assumption); (case k1 => k_asm); (case k2 => k_asm); (case k3 => k_asm); (case k4 => k_asm); (case k5 => k_asm); (case k6 => k_is); (case k7 => k_is); (case k8 => ktr_room); (case k9 => first | exact BindsTo.of_eq rfl | exact binds_K (by k_in) rfl (by k_is) rfl rfl rfl); (case kB => exact rfl); (case kD => decide +kernel); (case c2 => exact rfl); (case c3 => exact rfl); (case c4 => exact rfl); k_whole; intro g' L' h' tk' cells' FG' F' N' Y' B' X' T' l1; (try k_lt l1); k_cells Y'; (try simp only [List.cons_append, List.nil_append] at N'); (try dsimp only); (try k_lift B'); (try k_fold)))
local macro_rules | `(tactic| walk_at "call builtin:str.lower") => `(tactic| (k_here; (with_reducible show wpAny _ _ (call (Value.builtin "str.lower") [Value.str _ _]) _ _ _); k_dflt (refine' lower_to ?k1 ?k2 ?_; (case k1 => assumption); (case k2 => first | exact Nat.le_of_ble_eq_true rfl | assumption); k_whole); intro t' k'))
local macro_rules | `(tactic| walk_at "getMethod ref") => `(tactic| (k_here; (with_reducible show wpAny _ _ (getMethod (Value.ref _) (PySem.Str.ofString "search") _) _ _ _); k_dflt (refine' search_meth ?k1 ?k2 ?_; (case k1 => k_in); (case k2 => first | exact Or.inl rfl | exact Or.inr rfl); k_whole)))
local macro_rules | `(tactic| walk_at "call builtin:re.Pattern.search") => `(tactic| (k_here; (with_reducible show wpAny _ _ (call (Value.builtin "re.Pattern.search") [Value.ref _, Value.str _ _]) _ _ _); k_dflt (refine' search_none ?k1 ?k2 ?k3 ?_; (case k1 => k_in); (case k2 => first | exact Or.inl rfl | exact Or.inr rfl); (case k3 => assumption); k_whole)))
local macro_rules | `(tactic| k_room) => `(tactic| ktr_room)
local macro_rules | `(tactic| ktn_open) => `(tactic| first | exact agree_base (by assumption) | (refine' agree_step ?q1 ?q2 ?q3; (case q1 => assumption); (case q2 => decide +kernel); (case q3 => ktn_open)) | (refine' agree_in ?q1 ?q2 ?q3; (case q1 => assumption); (case q2 => decide +kernel); (case q3 => ktn_open)) | (dsimp only; ktn_open))
local macro_rules | `(tactic| k_mem) => `(tactic| (refine mem_of ?_; ktr_member))
local macro_rules | `(tactic| k_all) => `(tactic| first | assumption | (refine' off_rest ?q1 ?q2; (case q1 => first | assumption | exact restLt_of (by assumption)); (case q2 => (try dsimp only); omega)))
local macro_rules | `(tactic| walk_at "eval ListComp") => `(tactic| (k_here; refine Hold.out ?_))
local macro_rules | `(tactic| walk_at "call ref") => `(tactic| (k_here; (with_reducible show wpAny _ _ (call (Value.ref 110) [Value.ref _, Value.str _ _]) _ _ _); k_dflt (refine' del_c ?k1 ?k2 ?k3 ?k4 ?k5 ?k6 ?k7 ?k8 ?k9 ?k10 ?k11 ?k12 ?k13 ?_; (case k1 => k_asm); (case k2 => k_asm); (case k3 => k_asm); (case k4 => k_asm); (case k5 => first | exact rfl | assumption); (case k8 => k_asm); (case k9 => k_asm); (case k10 => k_asm); (case k11 => k_asm); (case k12 => k_asm); (case k13 => k_asm); (case k6 => ktr_room); (case k7 => ktr_units)); intro v' nn' h' tk' F' N'; (try k_sweep)))
local macro_rules | `(tactic| walk_at "delItem ref") => `(tactic| (k_here; (with_reducible show wpAny _ _ (delItem (Value.ref _) _) _ _ _); k_dflt (refine' delItem_own ?F ?X ?I ?hQ ?hS ?hF ?_; (case F => k_asm); (case X => k_asm); (case I => k_inst); (case hS => k_is); (case hF => k_is); (case hQ => k_is); k_whole)))
local macro_rules | `(tactic| walk_at "call builtin:list.append") => `(tactic| (k_here; (with_reducible show wpAny _ _ (call (Value.builtin _) [Value.ref _, _]) _ _ _); k_dflt (refine' append_K ?k1 ?k2 ?k3 ?_ ?z; (case k1 => k_asm); (case k2 => k_asm); (case k3 => k_upd); (case z => assumption); k_whole); intro h' F' N'; (try k_sweep)))
local macro_rules | `(tactic| walk_at "exec For Name Call cons nil") => `(tactic| (k_here; refine Hold.out ?_))
local macro_rules | `(tactic| walk_at "exec For Tuple Name cons nil") => `(tactic| (k_here; refine Hold.out ?_))
local macro_rules | `(tactic| walk_at "exec For Tuple Attribute cons nil") => `(tactic| (k_here; refine Hold.out ?_))
local macro_rules | `(tactic| walk_at "exec While UnaryOp cons nil") => `(tactic| (k_here; refine Hold.out ?_))
local macro_rules | `(tactic| walk_at "exec While Compare cons nil") => `(tactic| (k_here; refine Hold.out ?_))
local macro_rules | `(tactic| walk_at "pyIter ref") => `(tactic| (k_here; (with_reducible show wpAny _ _ (pyIter (Value.ref _)) (fun it s₂ => LoopAtV _ _ _ _ _ _ _ _ _ it s₂) _ _); refine Hold.out ?_))
local macro_rules | `(tactic| walk_at "no such place") => `(tactic| fail)
theorem off_P5 : True := by
  w_top off
  trivial
-- a generator's call
theorem call_gen {prog : Program} {w : World} {A : Around} {s : Shared} {h₀ : Heap} {L : Addr} {m : Str → Option Value} {news : List (Addr × Obj)} {K : Frag} {p : Program} {loose : List Str} {mean : ExcName → Option Value} {mg mb : Str → Option Value}
    {R : Result → Shared → Prop} {name qual : Str} {params : Arguments} {body : List Stmt} {scope : Scope} {dV kV doc pm cdv ct oc : Value} {an od : Option Addr} {osl : Array (Option Value)} {f : Addr} {args : Args} {binds : List (Str × Value)}
    (F : Fr h₀ L s.heap m) (X₀ : K.In h₀) (N : News h₀ L s.heap news) (T : Top p loose mean mg mb h₀)
    (ho : K.lookup f = some ⟨oc, od, .func (fnOf name qual params body scope dV kV doc pm an cdv ct), osl⟩) (hcd : codeIn K cdv qual = true) (hroom : A.depth < recursionLimit)
    (hbind : BindsTo s (fnOf name qual params body scope dV kV doc pm an cdv ct) args binds) (hloc : ∀ y ∈ binds, scope.names.lookup y.1 = some .local)
    (hgen : scope.isGenerator = true) (hco : scope.isCoroutine = false) (hk : scope.kind = .function) (hcell : ∀ x ∈ scope.names, x.2 ≠ .cell)
    (h : ∀ Lg a h' tk, s.heap.get? Lg = none → (∀ b o, s.heap.get? b = some o → b < Lg) → Lg < a → (∀ b o, s.heap.get? b = some o → h'.get? b = some o) → Fr h₀ L h' m → News h₀ L h' news → Fr h₀ Lg h' (fun y => binds.reverse.lookup y) → h'.IsGen a s.gens.size →
      R (.ok (.ret (.ref a))) { s with heap := h', toks := tk, gens := s.gens.push (.fresh (.func body (envOf qual scope Lg f cdv))) }) :
    codeAny (model prog w) A (.call (.ref f) args) R s := by
  have X := X₀.keeps F.keep
  refine codeAny_call_generator (fd := fnOf name qual params body scope dV kV doc pm an cdv ct) (body := body) hroom (X _ _ ho) rfl hco hgen rfl (codeRec_of X hcd) (hbind _ _ _ _ ?_)
  refine wpAny_newFunctionEnv hcell hloc (fun h₁ hns hsb => ?_) hk
  have up : ∀ b o, s.heap.get? b = some o → h₁.get? b = some o := fun b o e => hsb.extBut b o (Nat.ne_of_lt (Heap.lt_size e)) (Heap.get?_push_of_some _ e)
  refine ⟨(T.nolimit.keeps F.keep).keeps up, ?_⟩
  have hsz : h₁.objs.size = s.heap.objs.size + 1 := by rw [hsb.1, Heap.size_push]
  have up2 : ∀ (o₁ : Obj) b o, s.heap.get? b = some o → (h₁.push o₁).get? b = some o := fun o₁ b o e => Heap.get?_push_of_some _ (up b o e)
  have F1 : ∀ o₁ : Obj, Fr h₀ L (h₁.push o₁) m := fun o₁ => F.keeps (up2 o₁)
  refine h s.heap.objs.size h₁.objs.size _ _ (Heap.get?_none_of_le (Nat.le_refl _)) (fun b o e => Heap.lt_size e) (by rw [hsz]; exact Nat.lt_succ_self _) (fun b o e => up2 _ b o e) (F1 _) (fun q hq => ⟨up2 _ _ _ (N q hq).1, (N q hq).2⟩) ⟨hns.push _, fun b o e => up2 _ b o (F.keep b o e), Nat.le_trans F.above (Nat.le_of_lt F.ns.lt)⟩ ⟨_, _, _, Heap.get?_push_size _ rfl, rfl, rfl, rfl⟩
-- all objects but one, as a ledger
theorem all_led {g h : Heap} {L : Addr} {m : Str → Option Value} (_F : Fr g L h m) (own : List Addr) : ∃ ex, News g L h ex ∧ (∀ q ∈ ex, q.1 ∉ own) ∧ ∀ b o, b ≠ L → b ∉ own → g.get? b = none → h.get? b = some o → (b, o) ∈ ex := by
  refine ⟨PyProof.Rows.ownOf g ((List.range h.objs.size).filter fun b => b != L && !own.contains b) h, news_ownOf ?_, ?_, ?_⟩
  · intro hm
    have := (List.mem_filter.mp hm).2
    simp at this
  · intro q hq
    have := (List.mem_filter.mp (ownOf_sub q hq)).2
    simp at this
    exact this.2
  · intro b o hb ho hg hh
    refine mem_ownOf (List.mem_filter.mpr ⟨List.mem_range.mpr (Heap.lt_size hh), ?_⟩) hg hh
    simp [hb, ho]
theorem led_kept {g h h' : Heap} {L : Addr} {m m' : Str → Option Value} {ex nx : List (Addr × Obj)} {own : List Addr} (F : Fr g L h m) (F' : Fr g L h' m') (hex : ∀ b o, b ≠ L → b ∉ own → g.get? b = none → h.get? b = some o → (b, o) ∈ ex) (N' : News g L h' nx) (hs : ∀ p ∈ ex, p ∈ nx) :
    ∀ b o, b ≠ L → b ∉ own → h.get? b = some o → h'.get? b = some o := fun b o hb ho e => by
  cases hn : g.get? b with
  | some o₀ =>
    have h1 := F.keep b o₀ hn
    rw [e] at h1; cases h1
    exact F'.keep b o hn
  | none => exact (N' _ (hs _ (hex b o hb ho hn e))).1
theorem led_of {g h : Heap} {L : Addr} {m : Str → Option Value} (F : Fr g L h m) (own : List Addr) : ∃ ex, News g L h ex ∧ (∀ q ∈ ex, q.1 ∉ own) ∧ ∀ h' m' nx, Fr g L h' m' → News g L h' nx → (∀ p ∈ ex, p ∈ nx) → ∀ b o, b ≠ L → b ∉ own → h.get? b = some o → h'.get? b = some o := by
  obtain ⟨ex, N, h1, h2⟩ := all_led F own
  exact ⟨ex, N, h1, fun h' m' nx F' N' hs => led_kept F F' h2 N' hs⟩
-- what a generator of _grouping_intervals holds
def gval (ss : List Int) (j : Nat) : Int := if j < ss.length then ss.getD j 0 else ss.getD (ss.length - 1) 0
def gtot (ss tl : List Int) : Nat := if tl = [0, 9] then 12 else ss.length
structure Kept (z Lg : Addr) (s s' : Shared) : Prop where
  gens : s'.gens = s.gens
  drawn : s'.drawn = s.drawn
  os : s'.os = s.os
  heap : ∀ b o, b < z → b ≠ Lg → s.heap.get? b = some o → s'.heap.get? b = some o
def GSt (g : Heap) (Lg z row : Addr) (γ : Nat) (items : Array Value) (ss : List Int) (Ig : Addr) (j : Nat) (h : Heap) : Prop :=
  h.IsList row items ∧ (∃ a, z = a + 1 ∧ h.IsGen a γ) ∧ (∀ b o, g.get? b = some o → h.get? b = some o) ∧
    ((j = 0 ∧ Fr g Lg h (fun y => List.lookup y [(Str.ofString "grouping", Value.ref row)])) ∨
     (0 < j ∧ z ≤ Ig ∧ ∃ m, Fr g Lg h m ∧ h.IsListIter Ig row (min j (ss.length + 1)) ∧ (j ≤ ss.length → ∃ t, m (Str.ofString "interval") = some (.int (gval ss (j - 1)) t)) ∧ (ss.length < j → ∃ t, m (Str.ofString "last_interval") = some (.int (gval ss (j - 1)) t))))
theorem GSt.frame {g : Heap} {Lg z row Ig : Addr} {γ : Nat} {items : Array Value} {ss : List Int} {j : Nat} {h h' : Heap} (S : GSt g Lg z row γ items ss Ig j h) (hk : ∀ b o, b = Lg ∨ b = row ∨ b + 1 = z ∨ z ≤ b → h.get? b = some o → h'.get? b = some o) (hg : ∀ b o, g.get? b = some o → h'.get? b = some o) : GSt g Lg z row γ items ss Ig j h' := by
  obtain ⟨h1, ⟨a, ha, o, nm, qn, hao, hr⟩, h3, h4⟩ := S
  refine ⟨h1.at fun o e => hk _ _ (.inr (.inl rfl)) e, ⟨a, ha, o, nm, qn, hk _ _ (.inr (.inr (.inl ha.symm))) hao, hr⟩, hg, ?_⟩
  rcases h4 with ⟨hj, F⟩ | ⟨hj, hz, m, F, hI, hm⟩
  · exact .inl ⟨hj, F.ns.at' fun o e => hk _ _ (.inl rfl) e, hg, F.above⟩
  · exact .inr ⟨hj, hz, m, ⟨F.ns.at' fun o e => hk _ _ (.inl rfl) e, hg, F.above⟩, hI.at fun o e => hk _ _ (.inr (.inr (.inr hz))) e, hm⟩
def GY (g : Heap) (Lg z row : Addr) (γ : Nat) (items : Array Value) (ss tl : List Int) : Protocol := fun n s₀ v s κ =>
  ∃ Ig t, v = .int (gval ss (11 - n)) t ∧ 11 - n < gtot ss tl ∧ GSt g Lg z row γ items ss Ig (12 - n) s.heap ∧ Kept z Lg s₀ s ∧ (0 < n → ∀ s'', GSt g Lg z row γ items ss Ig (12 - n) s''.heap → κ (.send .none) s'')
def GP (z Lg : Addr) (ss tl : List Int) : Nat → Shared → Shared → Prop := fun n s₀ s => Kept z Lg s₀ s ∧ 12 - n = gtot ss tl
def GenAt (prog : Program) (w : World) (A : Around) (g : Heap) (Lg z row : Addr) (γ : Nat) (items : Array Value) (ss tl : List Int) (j : Nat) (s : Shared) : Prop :=
  ∃ Ig gs, s.gens[γ]? = some gs ∧ GSt g Lg z row γ items ss Ig j s.heap ∧
    (j < 12 → ∀ s'', GSt g Lg z row γ items ss Ig j s''.heap → gs.Goes (model prog w) A.in1 (fun n s₀ r s₁ => r = .ok (.ret .none) ∧ GP z Lg ss tl n s₀ s₁) (GY g Lg z row γ items ss tl) (12 - j) (.send .none) s'')
theorem GenAt.frame {prog : Program} {w : World} {A : Around} {g : Heap} {Lg z row : Addr} {γ : Nat} {items : Array Value} {ss tl : List Int} {j : Nat} {s s' : Shared} (S : GenAt prog w A g Lg z row γ items ss tl j s) (he : s'.gens = s.gens) (hk : ∀ b o, b = Lg ∨ b = row ∨ b + 1 = z ∨ z ≤ b → s.heap.get? b = some o → s'.heap.get? b = some o) (hg : ∀ b o, g.get? b = some o → s'.heap.get? b = some o) : GenAt prog w A g Lg z row γ items ss tl j s' :=
  let ⟨Ig, gs, h1, h2, h3⟩ := S
  ⟨Ig, gs, by rw [he]; exact h1, h2.frame hk hg, h3⟩
theorem setGen_get {s : Shared} {γ : Nat} {x : GenState} (h : γ < s.gens.size) : (s.setGen γ x).gens[γ]? = some x := by
  simp [Shared.setGen, h]
theorem bare_set {s : Shared} {γ : Nat} {x : GenState} (h : AllBare s.gens) (hx : x.bare = true) : AllBare (s.setGen γ x).gens := by
  intro y hy
  rcases Array.mem_or_eq_of_mem_setIfInBounds hy with h1 | h1
  · exact h y h1
  · rw [h1]; exact hx
theorem gen_next {prog : Program} {w : World} {A : Around} {E : Value → Shared → Prop} {g : Heap} {Lg a row : Addr} {γ : Nat} {items : Array Value} {ss tl : List Int} {j : Nat} {s : Shared} {Q : Option Value → Shared → Prop} {p : Program} {loose : List Str} {mean : ExcName → Option Value} {mg mb : Str → Option Value}
    (S : GenAt prog w A g Lg (a + 1) row γ items ss tl j s) (hga : Lg < a) (hj : j < 12) (T : Top p loose mean mg mb g) (hh : A.handled = none) (hroom : A.depth < recursionLimit) (hb : AllBare s.gens)
    (hY : ∀ t s', j < gtot ss tl → GenAt prog w A g Lg (a + 1) row γ items ss tl (j + 1) s' → AllBare s'.gens → s'.drawn = s.drawn → s'.os = s.os → (∀ b o, b ≤ a → b ≠ Lg → s.heap.get? b = some o → s'.heap.get? b = some o) → Q (some (.int (gval ss j) t)) s')
    (hP : ∀ s', j = gtot ss tl → (∀ b o, g.get? b = some o → s'.heap.get? b = some o) → AllBare s'.gens → s'.drawn = s.drawn → s'.os = s.os → (∀ b o, b ≤ a → b ≠ Lg → s.heap.get? b = some o → s'.heap.get? b = some o) → Q none s') :
    wpAny (model prog w) A (pyNext (.ref a)) Q E s := by
  obtain ⟨Ig, gs, hgs, hst, hgo⟩ := S
  obtain ⟨h1, ⟨a', ha', hG⟩, h3, h4⟩ := id hst
  have : a' = a := (Nat.succ.inj ha').symm
  subst this
  have hγ : γ < s.gens.size := by
    rcases Nat.lt_or_ge γ s.gens.size with h | h
    · exact h
    · rw [Array.getElem?_eq_none h] at hgs; cases hgs
  refine next_genQ (n := 12 - j) (P := GP (a' + 1) Lg ss tl) hh (T.nolimit.keeps h3) hroom hG hgs (hgo hj _ hst) (fun v s₁ gs' hbare hy => ?_) (fun s₁ hp h' hk => ?_)
  · obtain ⟨Ig', t, rfl, hjt, hst', hkp, hgo'⟩ := hy
    have e1 : 11 - (12 - j - 1) = j := by omega
    have e2 : 12 - (12 - j - 1) = j + 1 := by omega
    rw [e1] at hjt ⊢
    rw [e2] at hst' hgo'
    have hg1 : s₁.gens = (s.setGen γ .running).gens := hkp.gens
    have hsz : s₁.gens.size = s.gens.size := by rw [hg1]; simp [Shared.setGen]
    refine hY t _ hjt ⟨Ig', gs', setGen_get (by rw [hsz]; exact hγ), hst', fun hj' s'' hs'' => ?_⟩ (bare_set ?_ hbare) hkp.drawn hkp.os (fun b o hb' hb2 e => hkp.heap b o (Nat.lt_succ_of_le hb') hb2 e)
    · have := hgo' (by omega) s'' hs''
      have e3 : 12 - j = (12 - (j + 1)) + 1 := by omega
      rw [e3] at this
      exact this
    · rw [hg1]; exact bare_set hb rfl
  · obtain ⟨hkp, ht⟩ := hp
    have hg1 : s₁.gens = (s.setGen γ .running).gens := hkp.gens
    have hab : g.objs.size ≤ Lg := by
      rcases h4 with ⟨_, F⟩ | ⟨_, _, m, F, _⟩
      · exact F.above
      · exact F.above
    refine hP _ (by rw [← ht]; omega) (fun b o e => ?_) (bare_set ?_ rfl) hkp.drawn hkp.os (fun b o hb' hb2 e => hk _ _ (hkp.heap b o (Nat.lt_succ_of_le hb') hb2 e))
    · have hb1 : b < Lg := Nat.lt_of_lt_of_le (Heap.lt_size e) hab
      exact hk _ _ (hkp.heap b o (Nat.lt_trans hb1 (Nat.lt_succ_of_lt hga)) (Nat.ne_of_lt hb1) (h3 b o e))
    · rw [hg1]; exact bare_set hb rfl
end
section
local macro_rules | `(tactic| ktr_enter) => `(tactic| first | (refine' code_def ?k1 ?k2 ?k3 ?k4 ?k5 ?kA ?kF ?kK ?k6 ?k7 ?k8 ?k9 ?kB ?_ ?c2 ?c3 ?c4 ?c5; (case kA => exact rfl); (case kF => exact rfl); (case kK => first | exact rfl | assumption); (case k1 => k_asm); (case k2 => k_asm); (case k3 => k_asm); (case k4 => k_asm); (case k5 => k_asm); (case k6 => k_is); (case k7 => k_is); (case k8 => ktr_room); (case k9 => first | exact BindsTo.of_eq rfl | exact binds_K (by k_in) rfl (by k_is) rfl rfl rfl); (case c5 => decide); (case kB => exact locs rfl); (case c2 => exact rfl); (case c3 => exact rfl); (case c4 => exact rfl); k_whole; intro g' L' h' FG' F' N' B' X' T'; (try dsimp only); (try k_lift B'); (try k_fold)) | (refine' code_defC ?k1 ?k2 ?k3 ?k4 ?k5 ?kA ?kF ?kK ?k6 ?k7 ?k8 ?k9 ?kB ?kD ?_ ?c2 ?c3 ?c4; (case kA => exact rfl); (case kF => exact rfl); (case kK => first | exact rfl | assumption); (case k1 => k_asm); (case k2 => k_asm); (case k3 => k_asm); (case k4 => k_asm); (case k5 => k_asm); (case k6 => k_is); (case k7 => k_is); (case k8 => ktr_room); (case k9 => first | exact BindsTo.of_eq rfl | exact binds_K (by k_in) rfl (by k_is) rfl rfl rfl); (case kB => exact rfl); (case kD => decide +kernel); (case c2 => exact rfl); (case c3 => exact rfl); (case c4 => exact rfl); k_whole; intro g' L' h' tk' cells' FG' F' N' Y' B' X' T' l1; (try k_lt l1); k_cells Y'; (try simp only [List.cons_append, List.nil_append] at N'); (try dsimp only); (try k_lift B'); (try k_fold)))
local macro_rules | `(tactic| walk_at "call builtin:str.lower") => `(tactic| (k_here; (with_reducible show wpAny _ _ (call (Value.builtin "str.lower") [Value.str _ _]) _ _ _); k_dflt (refine' lower_to ?k1 ?k2 ?_; (case k1 => assumption); (case k2 => first | exact Nat.le_of_ble_eq_true rfl | assumption); k_whole); intro t' k'))
local macro_rules | `(tactic| walk_at "getMethod ref") => `(tactic| (k_here; (with_reducible show wpAny _ _ (getMethod (Value.ref _) (PySem.Str.ofString "search") _) _ _ _); k_dflt (refine' search_meth ?k1 ?k2 ?_; (case k1 => k_in); (case k2 => first | exact Or.inl rfl | exact Or.inr rfl); k_whole)))
local macro_rules | `(tactic| walk_at "call builtin:re.Pattern.search") => `(tactic| (k_here; (with_reducible show wpAny _ _ (call (Value.builtin "re.Pattern.search") [Value.ref _, Value.str _ _]) _ _ _); k_dflt (refine' search_none ?k1 ?k2 ?k3 ?_; (case k1 => k_in); (case k2 => first | exact Or.inl rfl | exact Or.inr rfl); (case k3 => assumption); k_whole)))
local macro_rules | `(tactic| k_room) => `(tactic| ktr_room)
local macro_rules | `(tactic| ktn_open) => `(tactic| first | exact agree_base (by assumption) | (refine' agree_step ?q1 ?q2 ?q3; (case q1 => assumption); (case q2 => decide +kernel); (case q3 => ktn_open)) | (refine' agree_in ?q1 ?q2 ?q3; (case q1 => assumption); (case q2 => decide +kernel); (case q3 => ktn_open)) | (dsimp only; ktn_open))
local macro_rules | `(tactic| k_mem) => `(tactic| (refine mem_of ?_; ktr_member))
local macro_rules | `(tactic| k_all) => `(tactic| first | assumption | (refine' off_rest ?q1 ?q2; (case q1 => first | assumption | exact restLt_of (by assumption)); (case q2 => (try dsimp only); omega)))
local macro_rules | `(tactic| walk_at "eval ListComp") => `(tactic| (k_here; refine Hold.out ?_))
local macro_rules | `(tactic| walk_at "call ref") => `(tactic| (k_here; (with_reducible show wpAny _ _ (call (Value.ref 110) [Value.ref _, Value.str _ _]) _ _ _); k_dflt (refine' del_c ?k1 ?k2 ?k3 ?k4 ?k5 ?k6 ?k7 ?k8 ?k9 ?k10 ?k11 ?k12 ?k13 ?_; (case k1 => k_asm); (case k2 => k_asm); (case k3 => k_asm); (case k4 => k_asm); (case k5 => first | exact rfl | assumption); (case k8 => k_asm); (case k9 => k_asm); (case k10 => k_asm); (case k11 => k_asm); (case k12 => k_asm); (case k13 => k_asm); (case k6 => ktr_room); (case k7 => ktr_units)); intro v' nn' h' tk' F' N'; (try k_sweep)))
local macro_rules | `(tactic| walk_at "delItem ref") => `(tactic| (k_here; (with_reducible show wpAny _ _ (delItem (Value.ref _) _) _ _ _); k_dflt (refine' delItem_own ?F ?X ?I ?hQ ?hS ?hF ?_; (case F => k_asm); (case X => k_asm); (case I => k_inst); (case hS => k_is); (case hF => k_is); (case hQ => k_is); k_whole)))
local macro_rules | `(tactic| walk_at "call builtin:list.append") => `(tactic| (k_here; (with_reducible show wpAny _ _ (call (Value.builtin _) [Value.ref _, _]) _ _ _); k_dflt (refine' append_K ?k1 ?k2 ?k3 ?_ ?z; (case k1 => k_asm); (case k2 => k_asm); (case k3 => k_upd); (case z => assumption); k_whole); intro h' F' N'; (try k_sweep)))
local macro_rules | `(tactic| walk_at "exec For Name Call cons nil") => `(tactic| (k_here; refine Hold.out ?_))
local macro_rules | `(tactic| walk_at "exec For Tuple Name cons nil") => `(tactic| (k_here; refine Hold.out ?_))
local macro_rules | `(tactic| walk_at "exec For Tuple Attribute cons nil") => `(tactic| (k_here; refine Hold.out ?_))
local macro_rules | `(tactic| walk_at "exec While UnaryOp cons nil") => `(tactic| (k_here; refine Hold.out ?_))
local macro_rules | `(tactic| walk_at "exec While Compare cons nil") => `(tactic| (k_here; refine Hold.out ?_))
local macro_rules | `(tactic| walk_at "pyIter ref") => `(tactic| (k_here; (with_reducible show wpAny _ _ (pyIter (Value.ref _)) (fun it s₂ => LoopAtV _ _ _ _ _ _ _ _ _ it s₂) _ _); refine Hold.out ?_))
theorem off_P6 : True := by
  w_top off
  trivial
-- _grouping_intervals
theorem genAt_new {prog : Program} {w : World} {A : Around} {g : Heap} {Lg z row : Addr} {items : Array Value} {ss tl : List Int} {s : Shared} {h' : Heap} {tk : Nat} {body : List Stmt} {env : Env} (S : GSt g Lg z row s.gens.size items ss 0 0 h')
    (h : ∀ s'', GSt g Lg z row s.gens.size items ss 0 0 s''.heap → Seg (model prog w) A.in1 (fun n s₀ r s₁ => r = .ok (.ret .none) ∧ GP z Lg ss tl n s₀ s₁) (GY g Lg z row s.gens.size items ss tl) 12 s'' (.func body env) ((model prog w).den (.func body env)) [] s'') :
    GenAt prog w A g Lg z row s.gens.size items ss tl 0 { s with heap := h', toks := tk, gens := s.gens.push (.fresh (.func body env)) } :=
  ⟨0, .fresh (.func body env), by simp, S, fun _ s'' hs => ⟨rfl, h s'' hs⟩⟩
theorem map_var {x : Str} {v : Value} {m : Str → Option Value} (h : m x = some v) : m = fun y => if y = x then some v else m y := by
  funext y
  by_cases e : y = x
  · subst e; rw [if_pos rfl, h]
  · rw [if_neg e]
-- the turns of a loop, by the turn's number
theorem seg_turns {M : Model} {A : Around} {R : GenEnd} {Y : Protocol} {c : Code} {fs : List Frame} (N : Nat) (Ok : Nat → Nat → Shared → Shared → Prop) (hN : ∀ j n s₀ s, Ok j n s₀ s → j ≤ N)
    (step : ∀ j n s₀ s, Ok j n s₀ s → (∀ n' s₀' s', Ok (j + 1) n' s₀' s' → Seg M A R Y n' s₀' c (M.den c) fs s') → Seg M A R Y n s₀ c (M.den c) fs s) : ∀ j n s₀ s, Ok j n s₀ s → Seg M A R Y n s₀ c (M.den c) fs s := by
  have key : ∀ k j n s₀ s, N + 1 - j = k → Ok j n s₀ s → Seg M A R Y n s₀ c (M.den c) fs s := by
    intro k
    induction k with
    | zero =>
      intro j n s₀ s hk ho
      have := hN _ _ _ _ ho
      omega
    | succ k ih =>
      intro j n s₀ s hk ho
      exact step j n s₀ s ho fun n' s₀' s' ho' => ih (j + 1) n' s₀' s' (by omega) ho'
  exact fun j n s₀ s ho => key _ j n s₀ s rfl ho
theorem seg_yields {M : Model} {A : Around} {R : GenEnd} {Y : Protocol} {c : Code} {fs : List Frame} (Ok : Nat → Shared → Shared → Prop)
    (step : ∀ n s₀ s, Ok (n + 1) s₀ s → (0 < n → ∀ s₀' s', Ok n s₀' s' → Seg M A R Y n s₀' c (M.den c) fs s') → Seg M A R Y (n + 1) s₀ c (M.den c) fs s) : ∀ n s₀ s, 0 < n → Ok n s₀ s → Seg M A R Y n s₀ c (M.den c) fs s
  | 0, _, _, h, _ => absurd h (Nat.lt_irrefl _)
  | n + 1, s₀, s, _, ho => step n s₀ s ho fun h s₀' s' ho' => seg_yields Ok step n s₀' s' h ho'
structure FOk (g : Heap) (Lg a row Ig : Addr) (γ : Nat) (items : Array Value) (ss : List Int) (j n : Nat) (s₀ s : Shared) : Prop where
  nj : n = 12 - j
  jl : j ≤ ss.length
  kept : Kept (a + 1) Lg s₀ s
  hl : s.heap.IsList row items
  hG : s.heap.IsGen a γ
  hI : s.heap.IsListIter Ig row j
  hz : a + 1 ≤ Ig
  fr : ∃ m, Fr g Lg s.heap m ∧ (j = 0 → m (Str.ofString "last_interval") = some .none) ∧ (0 < j → ∃ t, m (Str.ofString "last_interval") = some (.int (gval ss (j - 1)) t))
structure WOk (g : Heap) (Lg a row Ig : Addr) (γ : Nat) (items : Array Value) (ss : List Int) (n : Nat) (s₀ s : Shared) : Prop where
  nj : n ≤ 12 - ss.length
  kept : Kept (a + 1) Lg s₀ s
  hl : s.heap.IsList row items
  hG : s.heap.IsGen a γ
  hI : s.heap.IsListIter Ig row (ss.length + 1)
  hz : a + 1 ≤ Ig
  fr : ∃ m, Fr g Lg s.heap m ∧ ∃ t, m (Str.ofString "last_interval") = some (.int (gval ss (ss.length - 1)) t)
def hpF {g h : Heap} {L : Addr} {m : Str → Option Value} (_ : Fr g L h m) : Heap := h
theorem gen_c {w : World} {mean : ExcName → Option Value} {mg mb : Str → Option Value} {dp un : Nat} {gd : Option (List Code)} {cn : Str} {cs : Scope} {a : Addr} {ccd : Value} {cl : List (Str × Addr)} {outer : List Env} {h₀ : Heap} {L : Addr} {m : Str → Option Value} {s : Shared}
    {Q E : Value → Shared → Prop} (F : Fr h₀ L s.heap m) (X : (hd.heap_39 w.params).In h₀) (T : Top hd.view_39 LS mean mg mb h₀) (hdd : dp + 4 < recursionLimit)
    {news : List (Addr × Obj)} {row : Addr} {mn : Nat} {mvs : List Value} {ss tl : List Int}
    (N : News h₀ L s.heap news) (m1 : (row, listOf mvs.toArray mn) ∈ news) (hms : IntsAre mvs (ss ++ tl)) (hsl : 0 < ss.length ∧ ss.length ≤ 4) (hsb : ∀ x ∈ ss, 1 ≤ x ∧ x ≤ 5) (htl : tl = [0, 9] ∨ tl = [127, 2] ∨ tl = [])
    (hret : ∀ Lg a' h' tk gs, s.heap.get? Lg = none → (∀ b o, s.heap.get? b = some o → b < Lg) → Lg < a' → (∀ b o, s.heap.get? b = some o → h'.get? b = some o) → Fr h₀ L h' m → News h₀ L h' news → h'.IsGen a' s.gens.size →
      GenAt PySem.Challenge.rw_we0022_01.row.prog w (ktrTop dp un gd cn cs L a ccd cl outer) h₀ Lg (a' + 1) row s.gens.size mvs.toArray ss tl 0 { s with heap := h', toks := tk, gens := s.gens.push gs } → gs.bare = true → Q (.ref a') { s with heap := h', toks := tk, gens := s.gens.push gs }) :
    wpAny (model PySem.Challenge.rw_we0022_01.row.prog w) (ktrTop dp un gd cn cs L a ccd cl outer) (call (.ref 59) [.ref row]) Q E s := by
  revert X; k_fill; intro X
  refine wpAny_call ?_
  k_dflt (refine' call_gen ?k1 ?k2 ?k3 ?k4 ?k6 ?k7 ?k8 ?k9 ?kB ?c1 ?c2 ?c3 ?c4 ?kh)
  case k1 => exact F
  case k2 => exact X
  case k3 => exact N
  case k4 => exact T
  case k6 => k_is
  case k7 => k_is
  case k8 => ktr_room
  case k9 => exact BindsTo.of_eq rfl
  case kB => exact locs rfl
  case c1 => exact rfl
  case c2 => exact rfl
  case c3 => exact rfl
  case c4 => decide
  case kh =>
    intro Lg a' h' tk e1 e2 e3 e4 F1 N1 F2 hG
    have hl : h'.IsList row mvs.toArray := news_list N1 m1
    have S0 : GSt h₀ Lg (a' + 1) row s.gens.size mvs.toArray ss 0 0 h' := ⟨hl, ⟨a', rfl, hG⟩, F1.keep, .inl ⟨rfl, F2⟩⟩
    refine hret Lg a' h' tk _ e1 e2 e3 e4 F1 N1 hG (genAt_new S0 fun s'' S => ?_) rfl
    have hr0 := (N _ m1).1
    clear S0 hG F1 N1 F2 e4 hret N F hl
    refine seg_func ?_
    refine seg_execs_cons (seg_stmt ?_)
    obtain ⟨hl, hA, hg, hS⟩ := S
    rcases hS with ⟨_, F0⟩ | ⟨hj, _⟩
    case inr => exact absurd hj (Nat.lt_irrefl _)
    obtain ⟨ex, N0, _, hex⟩ := led_of F0 []
    k_steps
    all_goals (try k_data)
    (with_reducible rename Fr _ _ _ _ => F1)
    (with_reducible rename News _ _ _ _ => N1)
    obtain ⟨hx1, eh1⟩ : ∃ x, x = hpF F1 := ⟨_, rfl⟩
    dsimp only [hpF] at eh1
    subst eh1
    have hLa : a' ≠ Lg := Nat.ne_of_gt e3
    have hLr : row ≠ Lg := fun e => by
      rw [e] at hr0
      rw [hr0] at e1; cases e1
    have k1 := hex _ _ _ F1 N1 fun p hp => hp
    have k0 : Kept (a' + 1) Lg s'' s'' := ⟨rfl, rfl, rfl, fun _ _ _ _ e => e⟩
    obtain ⟨a2, ea, hG⟩ := hA
    have : a2 = a' := (Nat.succ.inj ea).symm
    subst this
    have hl1 := hl.at fun o e => k1 row o hLr (by simp) e
    have hG1 : Heap.IsGen _ a2 s.gens.size := let ⟨o, nm, qn, ho, r⟩ := hG; ⟨o, nm, qn, k1 _ _ hLa (by simp) ho, r⟩
    dsimp only
    refine seg_execs_cons (seg_For ?_ fun _ => rfl)
    k_steps
    all_goals (try k_data)
    refine wpAny_pyIter_list hl1 ?_
    intro pp
    refine seg_turns ss.length (FOk h₀ Lg a2 row hx1.objs.size s.gens.size mvs.toArray ss) (fun j n s₀ s h => h.jl) ?_ 0 12 _ _ ?_
    · intro j n s₀ s₁ O IH
      obtain ⟨hn, hj, hk0, hl2, hG2, hI2, hz2, m2, F2, hm0, hm1⟩ := O
      subst hn
      refine seg_forLoop (fun _ => rfl) ?_
      rcases Nat.lt_or_ge j ss.length with hjk | hjk
      · have hsj : ss[j]? = some (ss.getD j 0) := by simp [List.getD, hjk]
        obtain ⟨t, hx⟩ := hms.get j (ss.getD j 0) (by rw [List.getElem?_append_left hjk]; exact hsj)
        have hxb := hsb (ss.getD j 0) (List.mem_of_getElem? hsj)
        refine wpAny_pyNext_list_item hI2 hl2 (x := .int (ss.getD j 0) t) (by rw [List.getElem?_toArray]; exact hx) fun h3 hI3 hs3 => ?_
        have hIL : _ ≠ Lg := Nat.ne_of_gt (Nat.lt_of_lt_of_le (Nat.lt_succ_of_lt e3) hz2)
        have F3 : Fr h₀ Lg h3 m2 := F2.change hs3 hIL (Heap.get?_none_of_le (Nat.le_trans F2.above (Nat.le_of_lt (Nat.lt_of_lt_of_le (Nat.lt_succ_of_lt e3) hz2))))
        obtain ⟨ex3, N3, _, hex3⟩ := led_of F3 []
        dsimp only
        k_steps
        all_goals (try k_data)
        refine seg_execs_cons (seg_stmt ?_)
        k_steps
        all_goals (try k_data)
        · (rename ss.getD j 0 = 127 => h127)
          omega
        · dsimp only
          refine seg_execs_cons (seg_If ?_)
          k_steps
          all_goals (try k_data)
          · (rename ss.getD j 0 = 0 => h000)
            omega
          · refine seg_execs_nil ?_
            dsimp only
            refine seg_execs_cons ?_
            obtain ⟨n', hn'⟩ : ∃ n', 12 - j = n' + 1 := ⟨11 - j, by omega⟩
            rw [hn']
            refine seg_Expr_Yield rfl rfl rfl ?_
            k_steps
            all_goals (try k_data)
            (with_reducible rename Fr _ _ _ _ => F5)
            (with_reducible rename News _ _ _ _ => N5)
            rename_i κ hκ
            have k5 := hex3 _ _ _ F5 N5 fun p hp => hp
            have k6 : ∀ b o, b ≠ Lg → b ≠ hx1.objs.size → s₁.heap.get? b = some o → _ := fun b o hb hb2 e => k5 b o hb (by simp) ((hs3.2 b hb2).trans e)
            have en1 : 11 - n' = j := by omega
            have en2 : 12 - n' = j + 1 := by omega
            have hrI : row ≠ hx1.objs.size := fun e => by
              obtain ⟨o, ho, _⟩ := hl1
              rw [e] at ho
              exact absurd (Heap.lt_size ho) (Nat.lt_irrefl _)
            have haI : a2 ≠ hx1.objs.size := Nat.ne_of_lt (Nat.lt_of_succ_le hz2)
            refine ⟨hx1.objs.size, t, ?_, by rw [en1, gtot]; split <;> omega, ?_, ?_, fun hn0 s6 S => hκ .none s6 ?_⟩
            · rw [en1, gval, if_pos hjk]
            · rw [en2]
              refine ⟨hl2.at fun o e => k6 _ _ hLr hrI e, ⟨a2, rfl, let ⟨o, nm, qn, ho, r⟩ := hG2; ⟨o, nm, qn, k6 _ _ hLa haI ho, r⟩⟩, F5.keep, .inr ⟨Nat.succ_pos j, hz2, _, F5, ?_, fun _ => ⟨t, ?_⟩, fun h => absurd h (by omega)⟩⟩
              · rw [Nat.min_eq_left (by omega)]
                exact hI3.at fun o e => k5 _ _ hIL (by simp) e
              · show _ = some (Value.int (gval ss j) t)
                rw [gval, if_pos hjk]
                rfl
            · exact ⟨hk0.gens, hk0.drawn, hk0.os, fun b o hb hb2 e => k6 b o hb2 (Nat.ne_of_lt (Nat.lt_of_lt_of_le hb hz2)) (hk0.heap b o hb hb2 e)⟩
            · rw [en2] at S
              obtain ⟨hl6, ⟨a6, ea6, hG6⟩, hg6, hS6⟩ := S
              rcases hS6 with ⟨h0, _⟩ | ⟨_, _, m6, F6, hI6, hv6, _⟩
              · exact absurd h0 (by omega)
              obtain ⟨t6, ht6⟩ := hv6 (by omega)
              have e6 : a6 = a2 := (Nat.succ.inj ea6).symm
              rw [e6] at hG6
              rw [map_var ht6] at F6
              rw [Nat.min_eq_left (by omega)] at hI6
              obtain ⟨ex6, N6, _, hex6⟩ := led_of F6 []
              dsimp only
              refine seg_execs_cons (seg_stmt ?_)
              k_steps
              all_goals (try k_data)
              (with_reducible rename Fr _ _ _ _ => F7)
              (with_reducible rename News _ _ _ _ => N7)
              have k7 := hex6 _ _ _ F7 N7 fun p hp => hp
              dsimp only
              refine seg_execs_nil ?_
              dsimp only
              refine seg_again rfl ?_
              refine IH n' s6 _ ⟨by omega, by omega, ⟨rfl, rfl, rfl, fun b o hb hb2 e => k7 b o hb2 (by simp) e⟩, hl6.at fun o e => k7 _ _ hLr (by simp) e, (let ⟨o, nm, qn, ho, r⟩ := hG6; ⟨o, nm, qn, k7 _ _ hLa (by simp) ho, r⟩), hI6.at fun o e => k7 _ _ hIL (by simp) e, hz2, _, F7, fun h => absurd h (by omega), fun _ => ⟨t6, ?_⟩⟩
              rfl
      · have hje : j = ss.length := Nat.le_antisymm hj hjk
        have hIL : _ ≠ Lg := Nat.ne_of_gt (Nat.lt_of_lt_of_le (Nat.lt_succ_of_lt e3) hz2)
        have hIg : h₀.get? hx1.objs.size = none := Heap.get?_none_of_le (Nat.le_trans F2.above (Nat.le_of_lt (Nat.lt_of_lt_of_le (Nat.lt_succ_of_lt e3) hz2)))
        rcases htl with rfl | rfl | rfl
        · obtain ⟨t, hx⟩ := hms.get j 0 (by rw [List.getElem?_append_right hjk, hje, Nat.sub_self]; rfl)
          obtain ⟨tl0, hm2⟩ := hm1 (by omega)
          rw [map_var hm2] at F2
          refine wpAny_pyNext_list_item hI2 hl2 (x := .int 0 t) (by rw [List.getElem?_toArray]; exact hx) fun h3 hI3 hs3 => ?_
          have F3 := F2.change hs3 hIL hIg
          obtain ⟨ex3, N3, _, hex3⟩ := led_of F3 []
          dsimp only
          k_steps
          all_goals (try k_data)
          refine seg_execs_cons (seg_stmt ?_)
          k_steps
          all_goals (try k_data)
          dsimp only
          refine seg_execs_cons (seg_If ?_)
          k_steps
          all_goals (try k_data)
          refine seg_execs_cons (seg_stmt ?_)
          k_steps
          all_goals (try k_data)
          dsimp only
          refine seg_execs_cons (seg_While fun p2 => ?_)
          (with_reducible rename Fr _ _ _ _ => F5)
          (with_reducible rename News _ _ _ _ => N5)
          have k5 := hex3 _ _ _ F5 N5 fun p hp => hp
          have k6 : ∀ b o, b ≠ Lg → b ≠ hx1.objs.size → s₁.heap.get? b = some o → _ := fun b o hb hb2 e => k5 b o hb (by simp) ((hs3.2 b hb2).trans e)
          have hrI : row ≠ hx1.objs.size := fun e => by
            obtain ⟨o, ho, _⟩ := hl1
            rw [e] at ho
            exact absurd (Heap.lt_size ho) (Nat.lt_irrefl _)
          have haI : a2 ≠ hx1.objs.size := Nat.ne_of_lt (Nat.lt_of_succ_le hz2)
          refine seg_yields (WOk h₀ Lg a2 row hx1.objs.size s.gens.size mvs.toArray ss) ?_ (12 - j) _ _ (by omega) ⟨by omega, ⟨hk0.gens, hk0.drawn, hk0.os, fun b o hb hb2 e => k6 b o hb2 (Nat.ne_of_lt (Nat.lt_of_lt_of_le hb hz2)) (hk0.heap b o hb hb2 e)⟩, hl2.at fun o e => k6 _ _ hLr hrI e, (let ⟨o, nm, qn, ho, r⟩ := hG2; ⟨o, nm, qn, k6 _ _ hLa haI ho, r⟩), (by rw [← hje]; exact hI3.at fun o e => k5 _ _ hIL (by simp) e), hz2, _, F5, tl0, ?_⟩
          · intro n s₃ s₄ O IH2
            clear F5 N5 k5 k6 hs3 hI3 hex3 hk0 hl2 hG2 hI2 hm2 hm1 hm0 hx
            obtain ⟨hn, hk4, hl4, hG4, hI4, hz4, m4, F4, t4, hm4⟩ := O
            rw [map_var hm4] at F4
            obtain ⟨ex4, N4, _, hex4⟩ := led_of F4 []
            refine seg_whileLoop ?_
            k_steps
            all_goals (try k_data)
            refine seg_execs_cons (seg_Expr_Yield rfl rfl rfl ?_)
            k_steps
            all_goals (try k_data)
            (with_reducible rename Fr _ _ _ _ => F5)
            (with_reducible rename News _ _ _ _ => N5)
            rename_i κ hκ
            have k5 := hex4 _ _ _ F5 N5 fun p hp => hp
            have ev : gval ss (ss.length - 1) = gval ss (11 - n) := by
              rw [gval, gval, if_pos (by omega), if_neg (by omega)]
            have en : 12 - n - 1 = 11 - n := by omega
            refine ⟨hx1.objs.size, t4, by rw [ev], by rw [gtot, if_pos rfl]; omega, ?_, ?_, fun hn0 s6 S => hκ .none s6 ?_⟩
            · refine ⟨hl4.at fun o e => k5 _ _ hLr (by simp) e, ⟨a2, rfl, let ⟨o, nm, qn, ho, r⟩ := hG4; ⟨o, nm, qn, k5 _ _ hLa (by simp) ho, r⟩⟩, F5.keep, .inr ⟨by omega, hz4, _, F5, ?_, fun h => absurd h (by omega), fun _ => ⟨t4, ?_⟩⟩⟩
              · rw [Nat.min_eq_right (by omega)]
                exact hI4.at fun o e => k5 _ _ hIL (by simp) e
              · rw [en, ← ev]
                rfl
            · exact ⟨hk4.gens, hk4.drawn, hk4.os, fun b o hb hb2 e => k5 b o hb2 (by simp) (hk4.heap b o hb hb2 e)⟩
            · obtain ⟨hl6, ⟨a6, ea6, hG6⟩, hg6, hS6⟩ := S
              rcases hS6 with ⟨h0, _⟩ | ⟨_, _, m6, F6, hI6, _, hv6⟩
              · exact absurd h0 (by omega)
              obtain ⟨t6, ht6⟩ := hv6 (by omega)
              have e6 : a6 = a2 := (Nat.succ.inj ea6).symm
              rw [e6] at hG6
              rw [Nat.min_eq_right (by omega)] at hI6
              dsimp only
              refine seg_execs_nil ?_
              dsimp only
              refine seg_again rfl ?_
              refine IH2 hn0 s6 _ ⟨by omega, ⟨rfl, rfl, rfl, fun _ _ _ _ e => e⟩, hl6, hG6, hI6, hz4, m6, F6, t6, ?_⟩
              rw [ht6, en, ev]
          · rw [hje]
            rfl
        · obtain ⟨t, hx⟩ := hms.get j 127 (by rw [List.getElem?_append_right hjk, hje, Nat.sub_self]; rfl)
          refine wpAny_pyNext_list_item hI2 hl2 (x := .int 127 t) (by rw [List.getElem?_toArray]; exact hx) fun h3 hI3 hs3 => ?_
          have F3 := F2.change hs3 hIL hIg
          obtain ⟨ex3, N3, _, hex3⟩ := led_of F3 []
          dsimp only
          k_steps
          all_goals (try k_data)
          refine seg_execs_cons (seg_stmt ?_)
          k_steps
          all_goals (try k_data)
          dsimp only
          (with_reducible rename Fr _ _ _ _ => F5)
          (with_reducible rename News _ _ _ _ => N5)
          have k5 := hex3 _ _ _ F5 N5 fun p hp => hp
          have k6 : ∀ b o, b ≠ Lg → b ≠ hx1.objs.size → s₁.heap.get? b = some o → _ := fun b o hb hb2 e => k5 b o hb (by simp) ((hs3.2 b hb2).trans e)
          refine seg_leaf (.ok (.ret .none)) ?_
          refine seg_end (.ok (.ret .none)) ⟨rfl, ⟨hk0.gens, hk0.drawn, hk0.os, fun b o hb hb2 e => k6 b o hb2 (Nat.ne_of_lt (Nat.lt_of_lt_of_le hb hz2)) (hk0.heap b o hb hb2 e)⟩, ?_⟩
          rw [hje, gtot, if_neg (by decide)]
          omega
        · refine wpAny_pyNext_list_end rfl hI2 hl2 ?_ fun h3 he3 => ?_
          · rw [List.getElem?_toArray]
            refine List.getElem?_eq_none ?_
            rw [hms.length, List.append_nil]
            exact hjk
          · dsimp only
            refine seg_again rfl (seg_block_nil ?_)
            refine seg_end (.ok (.ret .none)) ⟨rfl, ⟨hk0.gens, hk0.drawn, hk0.os, fun b o hb hb2 e => he3 b o (Nat.ne_of_lt (Nat.lt_of_lt_of_le hb hz2)) (hk0.heap b o hb hb2 e)⟩, ?_⟩
            rw [hje, gtot, if_neg (by decide)]
            omega
    · refine ⟨rfl, Nat.zero_le _, ⟨rfl, rfl, rfl, fun b o hb hb2 e => ?_⟩, ?_, ?_, ⟨_, Heap.get?_push_size _ rfl, rfl, rfl⟩, ?_, _, F1.push _, fun _ => rfl, fun h => absurd h (Nat.lt_irrefl _)⟩
      · exact Heap.get?_push_of_some _ (k1 b o hb2 (by simp) e)
      · exact hl1.at fun o e => Heap.get?_push_of_some _ e
      · exact hG1.push _
      · obtain ⟨o, _, _, ho, _⟩ := hG1
        exact Nat.succ_le_of_lt (Heap.lt_size ho)
end
section
local macro_rules | `(tactic| ktr_enter) => `(tactic| first | (refine' code_def ?k1 ?k2 ?k3 ?k4 ?k5 ?kA ?kF ?kK ?k6 ?k7 ?k8 ?k9 ?kB ?_ ?c2 ?c3 ?c4 ?c5; (case kA => exact rfl); (case kF => exact rfl); (case kK => first | exact rfl | assumption); (case k1 => k_asm); (case k2 => k_asm); (case k3 => k_asm); (case k4 => k_asm); (case k5 => k_asm); (case k6 => k_is); (case k7 => k_is); (case k8 => ktr_room); (case k9 => first | exact BindsTo.of_eq rfl | exact binds_K (by k_in) rfl (by k_is) rfl rfl rfl); (case c5 => decide); (case kB => exact locs rfl); (case c2 => exact rfl); (case c3 => exact rfl); (case c4 => exact rfl); k_whole; intro g' L' h' FG' F' N' B' X' T'; (try dsimp only); (try k_lift B'); (try k_fold)) | (refine' code_defC ?k1 ?k2 ?k3 ?k4 ?k5 ?kA ?kF ?kK ?k6 ?k7 ?k8 ?k9 ?kB ?kD ?_ ?c2 ?c3 ?c4; (case kA => exact rfl); (case kF => exact rfl); (case kK => first | exact rfl | assumption); (case k1 => k_asm); (case k2 => k_asm); (case k3 => k_asm); (case k4 => k_asm); (case k5 => k_asm); (case k6 => k_is); (case k7 => k_is); (case k8 => ktr_room); (case k9 => first | exact BindsTo.of_eq rfl | exact binds_K (by k_in) rfl (by k_is) rfl rfl rfl); (case kB => exact rfl); (case kD => decide +kernel); (case c2 => exact rfl); (case c3 => exact rfl); (case c4 => exact rfl); k_whole; intro g' L' h' tk' cells' FG' F' N' Y' B' X' T' l1; (try k_lt l1); k_cells Y'; (try simp only [List.cons_append, List.nil_append] at N'); (try dsimp only); (try k_lift B'); (try k_fold)))
local macro_rules | `(tactic| walk_at "call builtin:str.lower") => `(tactic| (k_here; (with_reducible show wpAny _ _ (call (Value.builtin "str.lower") [Value.str _ _]) _ _ _); k_dflt (refine' lower_to ?k1 ?k2 ?_; (case k1 => assumption); (case k2 => first | exact Nat.le_of_ble_eq_true rfl | assumption); k_whole); intro t' k'))
local macro_rules | `(tactic| walk_at "getMethod ref") => `(tactic| (k_here; (with_reducible show wpAny _ _ (getMethod (Value.ref _) (PySem.Str.ofString "search") _) _ _ _); k_dflt (refine' search_meth ?k1 ?k2 ?_; (case k1 => k_in); (case k2 => first | exact Or.inl rfl | exact Or.inr rfl); k_whole)))
local macro_rules | `(tactic| walk_at "call builtin:re.Pattern.search") => `(tactic| (k_here; (with_reducible show wpAny _ _ (call (Value.builtin "re.Pattern.search") [Value.ref _, Value.str _ _]) _ _ _); k_dflt (refine' search_none ?k1 ?k2 ?k3 ?_; (case k1 => k_in); (case k2 => first | exact Or.inl rfl | exact Or.inr rfl); (case k3 => assumption); k_whole)))
local macro_rules | `(tactic| k_room) => `(tactic| ktr_room)
local macro_rules | `(tactic| ktn_open) => `(tactic| first | exact agree_base (by assumption) | (refine' agree_step ?q1 ?q2 ?q3; (case q1 => assumption); (case q2 => decide +kernel); (case q3 => ktn_open)) | (refine' agree_in ?q1 ?q2 ?q3; (case q1 => assumption); (case q2 => decide +kernel); (case q3 => ktn_open)) | (dsimp only; ktn_open))
local macro_rules | `(tactic| k_mem) => `(tactic| (refine mem_of ?_; ktr_member))
local macro_rules | `(tactic| k_all) => `(tactic| first | assumption | (refine' off_rest ?q1 ?q2; (case q1 => first | assumption | exact restLt_of (by assumption)); (case q2 => (try dsimp only); omega)))
local macro_rules | `(tactic| walk_at "eval ListComp") => `(tactic| (k_here; refine Hold.out ?_))
local macro_rules | `(tactic| walk_at "call ref") => `(tactic| (k_here; (with_reducible show wpAny _ _ (call (Value.ref 110) [Value.ref _, Value.str _ _]) _ _ _); k_dflt (refine' del_c ?k1 ?k2 ?k3 ?k4 ?k5 ?k6 ?k7 ?k8 ?k9 ?k10 ?k11 ?k12 ?k13 ?_; (case k1 => k_asm); (case k2 => k_asm); (case k3 => k_asm); (case k4 => k_asm); (case k5 => first | exact rfl | assumption); (case k8 => k_asm); (case k9 => k_asm); (case k10 => k_asm); (case k11 => k_asm); (case k12 => k_asm); (case k13 => k_asm); (case k6 => ktr_room); (case k7 => ktr_units)); intro v' nn' h' tk' F' N'; (try k_sweep)))
local macro_rules | `(tactic| walk_at "delItem ref") => `(tactic| (k_here; (with_reducible show wpAny _ _ (delItem (Value.ref _) _) _ _ _); k_dflt (refine' delItem_own ?F ?X ?I ?hQ ?hS ?hF ?_; (case F => k_asm); (case X => k_asm); (case I => k_inst); (case hS => k_is); (case hF => k_is); (case hQ => k_is); k_whole)))
local macro_rules | `(tactic| walk_at "call builtin:list.append") => `(tactic| (k_here; (with_reducible show wpAny _ _ (call (Value.builtin _) [Value.ref _, _]) _ _ _); k_dflt (refine' append_K ?k1 ?k2 ?k3 ?_ ?z; (case k1 => k_asm); (case k2 => k_asm); (case k3 => k_upd); (case z => assumption); k_whole); intro h' F' N'; (try k_sweep)))
local macro_rules | `(tactic| walk_at "exec For Name Call cons nil") => `(tactic| (k_here; refine Hold.out ?_))
local macro_rules | `(tactic| walk_at "exec For Tuple Name cons nil") => `(tactic| (k_here; refine Hold.out ?_))
local macro_rules | `(tactic| walk_at "exec For Tuple Attribute cons nil") => `(tactic| (k_here; refine Hold.out ?_))
local macro_rules | `(tactic| walk_at "exec While UnaryOp cons nil") => `(tactic| (k_here; refine Hold.out ?_))
local macro_rules | `(tactic| walk_at "exec While Compare cons nil") => `(tactic| (k_here; refine Hold.out ?_))
local macro_rules | `(tactic| walk_at "pyIter ref") => `(tactic| (k_here; (with_reducible show wpAny _ _ (pyIter (Value.ref _)) (fun it s₂ => LoopAtV _ _ _ _ _ _ _ _ _ it s₂) _ _); refine Hold.out ?_))
theorem off_P7 : True := by
  w_top off
  trivial
-- a comprehension over a range
theorem comp_range {prog : Program} {w : World} {A : Around} {E : Value → Shared → Prop} {s : Shared} {env : Env} {g : Heap} {Q : Value → Shared → Prop} {scope : Scope} {cl : List (Str × Addr)} {x : Str} {ifs : List Expr} {elt : Expr} {m : Str → Option Value} {news : List (Addr × Obj)} {r : Addr} {a₀ b₀ : Int} {t₀ u₀ v₀ : Tok} {n : Nat} (p : Value → Bool) (Fv : Value → Value → Prop)
    (hh : A.handled = none) (hr : IsRange s.heap r a₀ b₀ 1 t₀ u₀ v₀) (hsmall : Builtin.Range.small a₀ b₀ 1 = true) (hrs : Builtin.Range.rangeSize a₀ b₀ 1 = (n : Int)) (hsz : n ≤ sizeLine) (F : Fr g env.locals s.heap m) (N : News g env.locals s.heap news)
    (tests : ∀ C (i : Nat) t h tk (u : Str → Option Value) gs dr os E', i < n → Fr g C h (fun y => if y = x then some (.int (a₀ + (i : Int)) t) else u y) → News g C h news → Fr g env.locals h m → News g env.locals h news → env.locals < C →
      wpAny (model prog w) A (forIn ifs true fun c r => if r = true then do let ok ← isTrue c (compEnvC scope cl C env) (eval c (compEnvC scope cl C env)); pure (ForInStep.yield ok) else pure (ForInStep.yield r))
        (fun ok s₄ => ok = p (.int (a₀ + (i : Int)) t) ∧ Keeps ⟨h, gs, dr, tk, os⟩ s₄) E' ⟨h, gs, dr, tk, os⟩)
    (elts : ∀ C (i : Nat) t h tk (u : Str → Option Value) gs dr os E', i < n → p (.int (a₀ + (i : Int)) t) = true → Fr g C h (fun y => if y = x then some (.int (a₀ + (i : Int)) t) else u y) → News g C h news → Fr g env.locals h m → News g env.locals h news → env.locals < C →
      wpAny (model prog w) A (eval elt (compEnvC scope cl C env)) (fun y s₄ => Fv (.int (a₀ + (i : Int)) t) y ∧ Keeps ⟨h, gs, dr, tk, os⟩ s₄) E' ⟨h, gs, dr, tk, os⟩)
    (done : ∀ D h' tk ys (vs : List Value) k, vs.length = n → (∀ (j : Nat) v, vs[j]? = some v → ∃ t, v = .int (a₀ + (j : Int)) t) → Paired Fv (vs.filter p) ys.toList → Fr g env.locals h' m → News g env.locals h' ((D, listOf ys k) :: news) → (∀ p ∈ news, p.1 ≠ D) → Q (.ref D) { s with heap := h', toks := tk }) :
    CompAt prog w A E env scope cl x ifs elt p Fv Q (.ref r) s := by
  refine wpAny_pyIter_range hr hsmall ?_
  have hI : s.heap.get? s.heap.objs.size = none := Heap.get?_none_of_le (Nat.le_refl _)
  have hpush : ∀ o b o', s.heap.get? b = some o' → (s.heap.push o).get? b = some o' := fun o b o' e => Heap.get?_push_of_some _ e
  have hwr : ∀ b ∈ [s.heap.objs.size], s.heap.get? b = none := fun b hb => by rw [List.mem_singleton.mp hb]; exact hI
  have W : Walks prog w A s.heap.objs.size [s.heap.objs.size] [s.heap.objs.size] n (fun i v => i < n ∧ ∃ t, v = .int (a₀ + i * 1) t)
      (fun i h => IsRangeIter h s.heap.objs.size (a₀ + (i : Nat) * 1) ((n : Int) - (i : Nat)) 1) := (Walks.range hh _ a₀ 1 n).bound
  refine ⟨s.heap.objs.size, [s.heap.objs.size], [s.heap.objs.size], n, _, _, rfl, W, hsz, (by show IsRangeIter _ _ _ _ _; rw [hrs]; simpa using Heap.get?_push_size _ rfl), ?_, ?_, ?_⟩
  · intro b hb
    show b < (s.heap.push _).objs.size
    rw [Heap.size_push, List.mem_singleton.mp hb]
    exact Nat.lt_succ_self _
  · have hsC : ∀ C o, (s.heap.push o).objs.size ≤ C → s.heap.objs.size ≤ C := fun C o hC => by rw [Heap.size_push] at hC; omega
    constructor
    · rintro C i v ⟨h, gs, dr, tk, os⟩ m₃ E' hC ⟨hi, t, rfl⟩ hn hm hk htk
      have e1 : a₀ + (i : Int) * 1 = a₀ + (i : Int) := by omega
      rw [e1] at hm ⊢
      obtain ⟨f1, f2, f3, f4, f5⟩ := comp_fr (wr := [s.heap.objs.size]) F N (hsC C _ hC) hn hm (fun b o hb e => hk b o hb (hpush _ b o e)) hwr
      exact tests C i t h tk m₃ gs dr os E' hi f1 f2 f3 f4 f5
    · rintro C i v ⟨h, gs, dr, tk, os⟩ m₃ E' hC ⟨hi, t, rfl⟩ hpv hn hm hk htk
      have e1 : a₀ + (i : Int) * 1 = a₀ + (i : Int) := by omega
      rw [e1] at hm hpv ⊢
      obtain ⟨f1, f2, f3, f4, f5⟩ := comp_fr (wr := [s.heap.objs.size]) F N (hsC C _ hC) hn hm (fun b o hb e => hk b o hb (hpush _ b o e)) hwr
      exact elts C i t h tk m₃ gs dr os E' hi hpv f1 f2 f3 f4 f5
  · intro D h' tk ys vs hD hl' hpl hlen hP hpair hk
    have up : ∀ b o, s.heap.get? b = some o → h'.get? b = some o := fun b o e => hk b o (fun hb => by rw [hwr b hb] at e; cases e) (hpush _ b o e)
    have hDn : ∀ b o, s.heap.get? b = some o → b ≠ D := fun b o e hb => by
      subst hb
      exact nomatch (hD.symm.trans (Heap.get?_push_of_some _ e))
    obtain ⟨k, hn⟩ := hpl
    refine done D h' tk ys vs k hlen (fun j v e => ?_) hpair (F.keeps up) ?_ fun q hq => hDn _ _ (N q hq).1
    · obtain ⟨_, t, e2⟩ := hP j v e
      exact ⟨t, by rw [e2]; congr 1; omega⟩
    · intro q hq
      rcases List.mem_cons.mp hq with rfl | hq
      · refine ⟨hn, fun e => ?_, ?_⟩
        · obtain ⟨o, _, _, ho, _⟩ := F.ns
          exact hDn _ _ ho e.symm
        · cases e : g.get? D with
          | none => rfl
          | some o => exact absurd rfl (hDn _ _ (F.keep _ _ e))
      · exact ⟨up _ _ (N q hq).1, (N q hq).2⟩
-- _law_marks
def ad1 {g h : Heap} {L : Addr} {p : Addr × Obj} {r : List (Addr × Obj)} (_ : News g L h (p :: r)) : Addr := p.1
def ob2 {g h : Heap} {L : Addr} {p q : Addr × Obj} {r : List (Addr × Obj)} (_ : News g L h (p :: q :: r)) : Obj := q.2
def psum (ss : List Int) : Nat → Int
  | 0 => 0
  | n + 1 => psum ss n + gval ss n
def mrkD (ss : List Int) (n : Nat) : List Int := (List.range n).map fun i => psum ss (i + 1)
theorem mrkD_succ (ss : List Int) (n : Nat) : mrkD ss (n + 1) = mrkD ss n ++ [psum ss n + gval ss n] := by
  simp [mrkD, List.range_succ, psum]
def marksT (ss tl : List Int) : List Int := mrkD ss (gtot ss tl) ++ (List.range (12 - gtot ss tl)).map fun i => max (psum ss (gtot ss tl)) ((gtot ss tl + 1 + i : Nat) : Int)
structure MEnd (g : Heap) (L lm : Addr) (ss : List Int) (m₀ : Str → Option Value) (news : List (Addr × Obj)) (s₀ : Shared) (j : Nat) (s : Shared) : Prop where
  bare : AllBare s.gens
  drawn : s.drawn = s₀.drawn
  os : s.os = s₀.os
  fr : ∃ m, (∀ y, [Str.ofString "size"].contains y = false → m y = m₀ y) ∧ Fr g L s.heap m
  led : ∃ vs nn oc t, News g L s.heap ((lm, listOf (List.toArray vs) nn) :: (L + 1, oc) :: news) ∧ IntsAre vs (mrkD ss j) ∧ oc.data = .cell (some (.int (psum ss j) t))
structure MTurn (g : Heap) (L lm : Addr) (ss : List Int) (m₀ : Str → Option Value) (ex : List (Addr × Obj)) (s3 : Shared) (j : Nat) (f : Flow) (s5 : Shared) : Prop where
  st : ∃ h' tk, s5 = { s3 with heap := h', toks := tk }
  fr : ∃ m', (∀ y, [Str.ofString "size"].contains y = false → m' y = m₀ y) ∧ Fr g L s5.heap m'
  led : ∃ vs' nn' oc' u', News g L s5.heap ((lm, listOf (List.toArray vs') nn') :: (L + 1, oc') :: ex) ∧ IntsAre vs' (mrkD ss (j + 1)) ∧ oc'.data = .cell (some (.int (psum ss (j + 1)) u'))
  fl : (f = .next ∧ j + 1 ≠ 12) ∨ (f = .brk ∧ j + 1 = 12)
theorem mturn {g h' : Heap} {L lm : Addr} {ss : List Int} {m₀ u : Str → Option Value} {ex : List (Addr × Obj)} {s3 : Shared} {j tk nn : Nat} {f : Flow} {vs : List Value} {c : Option Value} {oc : Obj} {t t2 : Tok}
    (F : Fr g L h' (fun y => if y = Str.ofString "size" then c else if [Str.ofString "size"].contains y = true then u y else m₀ y)) (N : News g L h' ((lm, listOf (vs ++ [Value.int (psum ss j + gval ss j) t2]).toArray nn) :: (L + 1, oc) :: ex)) (hvs : IntsAre vs (mrkD ss j))
    (hd : oc.data = .cell (some (.int (psum ss j + gval ss j) t))) (hf : (f = .next ∧ j + 1 ≠ 12) ∨ (f = .brk ∧ j + 1 = 12)) : MTurn g L lm ss m₀ ex s3 j f { s3 with heap := h', toks := tk } := by
  refine ⟨⟨_, _, rfl⟩, ⟨_, fun y hy => ?_, F⟩, ⟨_, _, _, _, N, ?_, hd⟩, hf⟩
  · by_cases e : y = Str.ofString "size"
    · subst e; exact absurd hy (by decide +kernel)
    · rw [if_neg e, if_neg (by rw [hy]; simp)]
  · rw [mrkD_succ]
    exact hvs.append (IntsAre.cons _ _ IntsAre.nil)
theorem gen_keep {prog : Program} {w : World} {A : Around} {g : Heap} {Lg z row : Addr} {γ : Nat} {items : Array Value} {ss tl : List Int} {j : Nat} {s : Shared} (S : GenAt prog w A g Lg z row γ items ss tl j s) : ∀ b o, g.get? b = some o → s.heap.get? b = some o :=
  let ⟨_, _, _, h, _⟩ := S; h.2.2.1
theorem marks_loop {prog : Program} {w : World} {A : Around} {g : Heap} {L lm Lg ag row : Addr} {γ : Nat} {items : Array Value} {ss tl : List Int} {m₀ : Str → Option Value} {news : List (Addr × Obj)} {s₀ s : Shared} {target : Expr} {body : List Stmt} {env : Env} {R : Result → Shared → Prop}
    {p : Program} {loose : List Str} {mean : ExcName → Option Value} {mg mb : Str → Option Value} (S0 : GenAt prog w A g Lg (ag + 1) row γ items ss tl 0 s) (M0 : MEnd g L lm ss m₀ news s₀ 0 s) (T : Top p loose mean mg mb g) (hh : A.handled = none) (hroom : A.depth < recursionLimit)
    (hL : L < Lg) (hlm : lm < Lg) (hc : L + 1 < Lg) (hga : Lg < ag) (hnl : ∀ q ∈ news, q.1 < Lg) (hr1 : row ≠ lm) (hr2 : row ≠ L) (hr3 : row ≠ L + 1) (hlc : lm ≠ L + 1) (hn1 : ∀ q ∈ news, q.1 ≠ lm) (hn2 : ∀ q ∈ news, q.1 ≠ L + 1)
    (turn : ∀ j t s3 m2 vs nn oc u ex, j < 12 → (∀ y, [Str.ofString "size"].contains y = false → m2 y = m₀ y) → Fr g L s3.heap m2 → News g L s3.heap ((lm, listOf (List.toArray vs) nn) :: (L + 1, oc) :: ex) → IntsAre vs (mrkD ss j) → oc.data = .cell (some (.int (psum ss j) u)) → (∀ q ∈ ex, q.1 ≠ lm) → (∀ q ∈ ex, q.1 ≠ L + 1) →
      wpAny (model prog w) A (assign target env (.int (gval ss j) t)) (fun _ s4 => wpAny (model prog w) A (execs body env) (fun f s5 => MTurn g L lm ss m₀ ex s3 j f s5) (notedBy (model prog w) A env fun e s' => R (.error e) s') s4) (notedBy (model prog w) A env fun e s' => R (.error e) s') s3)
    (done : ∀ s2, MEnd g L lm ss m₀ news s₀ (gtot ss tl) s2 → R (.ok .next) s2) (hgt : gtot ss tl ≤ 12)
    (ht : ∀ v, letOwnedTupleGo target (.ref ag) v = pure ()) :
    codeAny (model prog w) A (.forLoop target (.ref ag) body [] env) R s := by
  have hLa : L ≤ ag := Nat.le_of_lt (Nat.lt_trans hL hga)
  have hla : lm ≤ ag := Nat.le_of_lt (Nat.lt_trans hlm hga)
  have hca : L + 1 ≤ ag := Nat.le_of_lt (Nat.lt_trans hc hga)
  -- what stands while another runs
  have keep : ∀ j s2 s3 (gk : ∀ b o, g.get? b = some o → s3.heap.get? b = some o), MEnd g L lm ss m₀ news s₀ j s2 → AllBare s3.gens → s3.drawn = s2.drawn → s3.os = s2.os → (∀ b o, b ≤ ag → b ≠ Lg → s2.heap.get? b = some o → s3.heap.get? b = some o) → MEnd g L lm ss m₀ news s₀ j s3 := by
    rintro j s2 s3 gk ⟨hb2, hd2, ho2, ⟨m2, hm2, F3⟩, vs, nn, oc, t, N3, hvs, hoc⟩ hb3 hd3 ho3 hk3
    refine ⟨hb3, hd3.trans hd2, ho3.trans ho2, ⟨m2, hm2, F3.ns.at' fun o e => hk3 _ _ hLa (Nat.ne_of_lt hL) e, gk, F3.above⟩, vs, nn, oc, t, ?_, hvs, hoc⟩
    intro q hq
    refine ⟨hk3 _ _ ?_ ?_ (N3 _ hq).1, (N3 _ hq).2⟩
    · rcases List.mem_cons.mp hq with rfl | hq
      · exact hla
      · rcases List.mem_cons.mp hq with rfl | hq
        · exact hca
        · exact Nat.le_of_lt (Nat.lt_trans (hnl _ hq) hga)
    · rcases List.mem_cons.mp hq with rfl | hq
      · exact Nat.ne_of_lt hlm
      · rcases List.mem_cons.mp hq with rfl | hq
        · exact Nat.ne_of_lt hc
        · exact Nat.ne_of_lt (hnl _ hq)
  refine codeAny_forLoop (fun k s2 => ∃ j, k = 12 - j ∧ j < 12 ∧ GenAt prog w A g Lg (ag + 1) row γ items ss tl j s2 ∧ MEnd g L lm ss m₀ news s₀ j s2) ?_ 12 ⟨0, rfl, by decide, S0, M0⟩ ht
  rintro k s2 ⟨j, rfl, hj, S2, M2⟩
  refine gen_next S2 hga hj T hh hroom M2.bare ?_ ?_
  · intro t s3 hjt S3 hb3 hd3 ho3 hk3
    obtain ⟨_, _, _, ⟨m2, hm2, F3⟩, vs, nn, oc, u, N3, hvs, hoc⟩ := keep j s2 s3 (gen_keep S3) M2 hb3 hd3 ho3 hk3
    obtain ⟨ex, Nex, hoff, hex⟩ := led_of F3 [lm, L + 1]
    have N4 : News g L s3.heap ((lm, listOf (List.toArray vs) nn) :: (L + 1, oc) :: ex) := fun q hq => by
      rcases List.mem_cons.mp hq with rfl | hq
      · exact N3 _ (.head _)
      · rcases List.mem_cons.mp hq with rfl | hq
        · exact N3 _ (.tail _ (.head _))
        · exact Nex _ hq
    refine wpAny_mono (turn j t s3 m2 vs nn oc u ex hj hm2 F3 N4 hvs hoc (fun q hq e => hoff q hq (by rw [e]; exact .head _)) (fun q hq e => hoff q hq (by rw [e]; exact .tail _ (.head _)))) (fun _ s4 h4 => wpAny_mono h4 (fun f s5 h5 => ?_) fun _ _ e => e) fun _ _ e => e
    obtain ⟨⟨h', tk, es⟩, ⟨m', hm', F5⟩, ⟨vs', nn', oc', u', N5, hvs', hoc'⟩, hf⟩ := h5
    have hk5 : ∀ b o, b ≠ L → b ≠ lm → b ≠ L + 1 → s3.heap.get? b = some o → s5.heap.get? b = some o := fun b o h1 h2 h3 e => hex _ _ ex F5 (fun q hq => N5 _ (.tail _ (.tail _ hq))) (fun q hq => hq) b o h1 (by simp [h2, h3]) e
    have M5 : MEnd g L lm ss m₀ news s₀ (j + 1) s5 := by
      refine ⟨by rw [es]; exact hb3, by rw [es]; exact hd3.trans M2.drawn, by rw [es]; exact ho3.trans M2.os, ⟨m', hm', F5⟩, vs', nn', oc', u', fun q hq => ?_, hvs', hoc'⟩
      rcases List.mem_cons.mp hq with rfl | hq
      · exact N5 _ (.head _)
      · rcases List.mem_cons.mp hq with rfl | hq
        · exact N5 _ (.tail _ (.head _))
        · have := N3 _ (.tail _ (.tail _ hq))
          exact ⟨hk5 _ _ this.2.1 (hn1 _ hq) (hn2 _ hq) this.1, this.2⟩
    rcases hf with ⟨rfl, hj1⟩ | ⟨rfl, hj1⟩
    · refine ⟨12 - (j + 1), by omega, j + 1, rfl, by omega, S3.frame (by rw [es]) (fun b o hb e => hk5 b o ?_ ?_ ?_ e) F5.keep, M5⟩
      · rcases hb with rfl | rfl | hb | hb
        · exact Nat.ne_of_gt hL
        · exact hr2
        · rw [Nat.succ.inj hb]; exact Nat.ne_of_gt (Nat.lt_trans hL hga)
        · exact Nat.ne_of_gt (Nat.lt_of_le_of_lt hLa hb)
      · rcases hb with rfl | rfl | hb | hb
        · exact Nat.ne_of_gt hlm
        · exact hr1
        · rw [Nat.succ.inj hb]; exact Nat.ne_of_gt (Nat.lt_trans hlm hga)
        · exact Nat.ne_of_gt (Nat.lt_of_le_of_lt hla hb)
      · rcases hb with rfl | rfl | hb | hb
        · exact Nat.ne_of_gt hc
        · exact hr3
        · rw [Nat.succ.inj hb]; exact Nat.ne_of_gt (Nat.lt_trans hc hga)
        · exact Nat.ne_of_gt (Nat.lt_of_le_of_lt hca hb)
    · refine done s5 ?_
      have : gtot ss tl = j + 1 := by omega
      rw [this]; exact M5
  · intro s3 hje gk hb3 hd3 ho3 hk3
    refine wpAny_execs_nil (done s3 ?_)
    rw [← hje]
    exact keep j s2 s3 gk M2 hb3 hd3 ho3 hk3
def lcF {g h : Heap} {L : Addr} {m : Str → Option Value} (_ : Fr g L h m) : Addr := L
theorem off_cons {p : Addr × Obj} {l : List (Addr × Obj)} {b : Addr} (h : p.1 ≠ b) (hl : ∀ q ∈ l, q.1 ≠ b) : ∀ q ∈ p :: l, q.1 ≠ b := fun q hq => by
  rcases List.mem_cons.mp hq with rfl | hq
  · exact h
  · exact hl q hq
local macro_rules | `(tactic| k_all) => `(tactic| (refine' off_cons ?q1 ?q2; (case q1 => first | assumption | (dsimp only; omega)); (case q2 => assumption)))
def MaxOf (P : Int) (v y : Value) : Prop := ∃ k t t', v = .int k t ∧ y = .int (max P k) t'
theorem maxOf_if {P k : Int} {t u : Tok} : MaxOf P (.int k u) (if k > P then .int k u else .int P t) := by
  refine ⟨k, u, if k > P then u else t, rfl, ?_⟩
  split
  · rw [Int.max_eq_right (by omega)]
  · rw [Int.max_eq_left (by omega)]
theorem paired_max {P : Int} {vs ws : List Value} (hp : Paired (MaxOf P) vs ws) : ∀ {a₀ : Int} {n : Nat}, vs.length = n → (∀ (j : Nat) v, vs[j]? = some v → ∃ t, v = .int (a₀ + (j : Int)) t) → IntsAre ws ((List.range n).map fun i : Nat => max P (a₀ + (i : Int))) := by
  induction hp with
  | nil =>
    intro a₀ n hn _
    subst hn
    exact IntsAre.nil
  | cons h _ ih =>
    intro a₀ n hn hv
    subst hn
    obtain ⟨t0, e0⟩ := hv 0 _ rfl
    obtain ⟨k, t, t', e1, e2⟩ := h
    rw [e0] at e1
    cases e1
    rw [List.length_cons, List.range_succ_eq_map, List.map_cons, List.map_map, e2]
    have := ih (a₀ := a₀ + 1) rfl fun j v e => by
      obtain ⟨t2, e3⟩ := hv (j + 1) v e
      exact ⟨t2, by rw [e3]; congr 1; omega⟩
    have e4 : ((fun i : Nat => max P (a₀ + (i : Int))) ∘ Nat.succ) = fun i : Nat => max P (a₀ + 1 + (i : Int)) := by
      funext i
      show max P (a₀ + ((i + 1 : Nat) : Int)) = _
      congr 1
      omega
    rw [e4]
    have e5 : a₀ + ((0 : Nat) : Int) = a₀ := by omega
    rw [e5]
    exact IntsAre.cons _ _ this
local macro_rules | `(tactic| walk_at "call builtin:max") => `(tactic| (k_here; refine Hold.out ?_))
theorem marks_c {w : World} {mean : ExcName → Option Value} {mg mb : Str → Option Value} {dp un : Nat} {gd : Option (List Code)} {cn : Str} {cs : Scope} {a : Addr} {ccd : Value} {cl : List (Str × Addr)} {outer : List Env} {A₀ : Around} {base h₀ : Heap} {L : Addr} {m : Str → Option Value} {s : Shared}
    {Q E : Value → Shared → Prop} (B : Below A₀ base outer h₀) (F : Fr h₀ L s.heap m) (X : (hd.heap_39 w.params).In h₀) (T : Top hd.view_39 LS mean mg mb h₀) (hk : cs.kind = .function) (hdd : dp + 9 < recursionLimit) (hu : un + 72 < cLine)
    {news : List (Addr × Obj)} {row : Addr} {mn : Nat} {mvs : List Value} {ss tl : List Int} (hb : AllBare s.gens)
    (N : News h₀ L s.heap news) (m1 : (row, listOf mvs.toArray mn) ∈ news) (hms : IntsAre mvs (ss ++ tl)) (hsl : 0 < ss.length ∧ ss.length ≤ 4) (hsb : ∀ x ∈ ss, 1 ≤ x ∧ x ≤ 5) (htl : tl = [0, 9] ∨ tl = [127, 2] ∨ tl = [])
    (hret : ∀ r vs nn s', Fr h₀ L s'.heap m → News h₀ L s'.heap ((r, listOf vs.toArray nn) :: news) → (∀ p ∈ news, p.1 ≠ r) → IntsAre vs (marksT ss tl) → AllBare s'.gens → s'.drawn = s.drawn → s'.os = s.os → Q (.ref r) s') :
    wpAny (model PySem.Challenge.rw_we0022_01.row.prog w) (ktrTop dp un gd cn cs L a ccd cl outer) (call (.ref 201) [.ref row]) Q E s := by
  revert X; k_fill; intro X
  refine wpAny_call ?_
  k_dflt ktr_enter
  k_steps
  all_goals (try k_data)
  refine Hold.mk ?_
  refine wpAny_For ?_ (fun _ => rfl)
  k_steps
  all_goals (try k_data)
  (with_reducible rename Fr _ _ _ _ => F1)
  (with_reducible rename News _ _ _ _ => N1)
  (with_reducible rename Frag.In _ _ => X1)
  (with_reducible rename Top _ _ _ _ _ _ => T1)
  obtain ⟨lm, ex⟩ : ∃ x, x = ad1 N1 := ⟨_, rfl⟩
  dsimp only [ad1] at ex
  subst ex
  obtain ⟨L1, ex⟩ : ∃ x, x = lcF F1 := ⟨_, rfl⟩
  dsimp only [lcF] at ex
  subst ex
  obtain ⟨o1, ex⟩ : ∃ x, x = ob2 N1 := ⟨_, rfl⟩
  dsimp only [ob2] at ex
  subst ex
  (rename _ ∧ AllLt lm news => l1)
  (rename ∀ p ∈ news, p.1 < L1 => l0)
  (rename o1.data = _ => hc1)
  k_dflt (refine' gen_c ?kF ?kX ?kT ?kd ?kN ?km1 ?kms ?ksl ?ksb ?ktl ?kr)
  case kF => exact F1
  case kX => exact X1
  case kT => exact T1
  case kd => ktr_room
  case kN => exact N1
  case km1 => exact .tail _ (.tail _ m1)
  case kms => exact hms
  case ksl => exact hsl
  case ksb => exact hsb
  case ktl => exact htl
  case kr =>
    intro Lg ag h1 tk1 gs e1 e2 e3 e4 F2 N2 hG S hbare
    refine wpAny_pyIter_gen hG ?_
    have hlm := e2 _ _ (N1 _ (.head _)).1
    have hcl := e2 _ _ (N1 _ (.tail _ (.head _))).1
    have hnl : ∀ p ∈ news, p.1 < Lg := fun p hp => e2 _ _ (N1 _ (.tail _ (.tail _ hp))).1
    have hLL : L1 < Lg := by
      obtain ⟨o, _, _, ho, _⟩ := F1.ns
      exact e2 _ _ ho
    have hrow := hnl _ m1
    have hL1 : L1 + 1 < lm := l1.1
    have hrL : row < L1 := l0 _ m1
    have hLm : L1 < lm := Nat.lt_of_succ_lt hL1
    refine marks_loop (s₀ := s) (lm := lm) (L := L1) (Lg := Lg) S ⟨hb.push hbare, rfl, rfl, ⟨_, fun _ _ => rfl, F2⟩, [], 0, o1, _, N2, .nil, hc1⟩ T1 rfl (by ktr_room) hLL hlm hcl e3 hnl ?r1 ?r2 ?r3 ?r4 ?r5 ?r6 ?turn ?done ?r7 (fun _ => rfl)
    case r1 => exact Nat.ne_of_lt (Nat.lt_trans hrL hLm)
    case r2 => exact Nat.ne_of_lt hrL
    case r3 => exact Nat.ne_of_lt (Nat.lt_succ_of_lt hrL)
    case r4 => exact Nat.ne_of_gt hL1
    case r5 => exact fun q hq => Nat.ne_of_lt (Nat.lt_trans (l0 q hq) hLm)
    case r6 => exact fun q hq => Nat.ne_of_lt (Nat.lt_succ_of_lt (l0 q hq))
    case r7 =>
      rw [gtot]
      split <;> omega
    case turn =>
      intro j t s3 m2 vs nn oc u ex hj hm2 F3 N3 hvs hoc ho1 ho2
      rw [agree_eq _ hm2] at F3
      have hne : lm ≠ L1 + 1 := Nat.ne_of_gt hL1
      have hne' : L1 + 1 ≠ lm := Nat.ne_of_lt hL1
      have hvl : vs.length = j := by rw [hvs.length, mrkD, List.length_map, List.length_range]
      have hz : vs.toArray.size ≤ sizeLine := by
        rw [List.size_toArray, hvl, sizeLine_eq]
        omega
      clear F2 N2 F1 N1 e1 e2 e4 S hG hm2 l1
      k_steps
      all_goals (try k_data)
      (with_reducible rename Fr _ _ _ _ => F4)
      (with_reducible rename News _ _ _ _ => N4)
      refine KM.len_K (n := j + 1) N4 (.head _) (by rw [List.size_toArray, List.length_append, hvl]; rfl) (by omega) ?_
      k_steps
      all_goals (try k_data)
      · dsimp only
        (rename ((j + 1 : Nat) : Int) = 12 => h12)
        exact mturn F4 N4 hvs (by assumption) (.inr ⟨rfl, by omega⟩)
      · (rename ((j + 1 : Nat) : Int) ≠ 12 => h12)
        exact mturn F4 N4 hvs (by assumption) (.inl ⟨rfl, by omega⟩)
    case done =>
      rintro s2 ⟨hb2, hd2, ho2, ⟨m2, hm2, F3⟩, vs, nn, oc, u, N3, hvs, hoc⟩
      rw [agree_eq _ hm2] at F3
      clear F2 N2 F1 N1 e1 e2 e4 S hG hm2
      dsimp only
      k_steps
      all_goals (try k_data)
      refine Hold.mk ?_
      refine comp_rule (p := fun _ => true) (Fv := MaxOf (psum ss (gtot ss tl))) rfl (by decide +kernel) rfl (by decide +kernel) rfl (fun _ => rfl) ?_
      k_steps
      all_goals (try k_data)
      (with_reducible rename Fr _ _ _ _ => F4)
      (with_reducible rename News _ _ _ _ => N4)
      have hvl : vs.length = gtot ss tl := by rw [hvs.length, mrkD, List.length_map, List.length_range]
      have hg12 : gtot ss tl ≤ 12 := by
        rw [gtot]
        split <;> omega
      refine KM.len_K (n := gtot ss tl) N4 (.head _) (by rw [List.size_toArray, hvl]) (by omega) ?_
      k_steps
      all_goals (try k_data)
      (with_reducible rename IsRange _ _ _ _ _ _ _ _ => hr)
      (with_reducible rename Fr _ _ _ _ => F5)
      (with_reducible rename News _ _ _ _ => N5)
      have hsml : ∀ k : Nat, k < 13 → Builtin.Range.small ((k : Int) + 1) 13 1 = true ∧ Builtin.Range.rangeSize ((k : Int) + 1) 13 1 = ((12 - k : Nat) : Int) := by decide +kernel
      have hsm := hsml _ (Nat.lt_succ_of_le hg12)
      refine' comp_range (n := 12 - gtot ss tl) _ _ ?hh ?hr ?hsm ?hrs ?hsz ?FF ?NN ?tt ?ee ?dd
      case hh => exact rfl
      case hr => exact hr
      case hsm => exact hsm.1
      case hrs => exact hsm.2
      case hsz => rw [sizeLine_eq]; omega
      case FF => exact F5
      case NN => exact N5
      case tt =>
        intro C i t h tk u' gs' dr os E' hi f1 f2 f3 f4 f5
        exact test_none ⟨rfl, _, _, rfl, fun _ _ e => e⟩
      case ee =>
        intro C i t h tk u' gs' dr os E' hi _ f1 f2 f3 f4 f5
        clear f3 f4 F5 N5 hr
        k_steps
        all_goals (try k_data)
        refine Hold.mk ?_
        refine max_two_ints rfl fun h' tk' hk' => ?_
        exact ⟨maxOf_if, _, _, rfl, hk'⟩
      case dd =>
        intro D h6 tk6 ys vs6 k6 hl6 hv6 hp6 F6 N6 hn6
        clear F5 N5 hr
        obtain ⟨ws, ew⟩ : ∃ ws : List Value, ys = ws.toArray := ⟨ys.toList, by simp⟩
        subst ew
        have hall : vs6.filter (fun _ => true) = vs6 := List.filter_eq_self.mpr fun _ _ => rfl
        rw [hall] at hp6
        have iD := paired_max hp6 hl6 hv6
        k_steps
        all_goals (try k_data)
        k_dflt (refine' kmk_add_ints ?sF ?sN ?sa ?sb ?si ?sj ?sh ?sz)
        case sF => k_asm
        case sN => k_asm
        case sa => exact news_list N6 (.tail _ (.head _))
        case sb => exact news_list N6 (.head _)
        case si => exact hvs
        case sj => exact iD
        case sz =>
          rw [← hvs.length, hvl, List.length_map, List.length_range, sizeLine_eq]
          omega
        case sh =>
          intro D2 us h7 F7 N7 l7 hus
          clear F6 N6
          k_steps
          all_goals (try k_data)
          (with_reducible rename Fr _ _ _ _ => F9)
          (with_reducible rename News _ _ _ _ => N9)
          refine hret D2 us 0 _ F9 ?_ ?_ ?_ hb2 hd2 ho2
          · intro q hq
            rcases List.mem_cons.mp hq with rfl | hq
            · exact N9 _ (.head _)
            · exact N9 _ (.tail _ (.tail _ (.tail _ (.tail _ hq))))
          · exact fun q hq => Nat.ne_of_lt (l7 q (.tail _ (.tail _ (.tail _ hq))))
          · have e : (fun i : Nat => max (psum ss (gtot ss tl)) (((gtot ss tl : Nat) : Int) + 1 + (i : Int))) = fun i : Nat => max (psum ss (gtot ss tl)) ((gtot ss tl + 1 + i : Nat) : Int) := by
              funext i
              congr 1
            rw [marksT, ← e]
            exact hus
end
section
local macro_rules | `(tactic| ktr_enter) => `(tactic| first | (refine' code_def ?k1 ?k2 ?k3 ?k4 ?k5 ?kA ?kF ?kK ?k6 ?k7 ?k8 ?k9 ?kB ?_ ?c2 ?c3 ?c4 ?c5; (case kA => exact rfl); (case kF => exact rfl); (case kK => first | exact rfl | assumption); (case k1 => k_asm); (case k2 => k_asm); (case k3 => k_asm); (case k4 => k_asm); (case k5 => k_asm); (case k6 => k_is); (case k7 => k_is); (case k8 => ktr_room); (case k9 => first | exact BindsTo.of_eq rfl | exact binds_K (by k_in) rfl (by k_is) rfl rfl rfl); (case c5 => decide); (case kB => exact locs rfl); (case c2 => exact rfl); (case c3 => exact rfl); (case c4 => exact rfl); k_whole; intro g' L' h' FG' F' N' B' X' T'; (try dsimp only); (try k_lift B'); (try k_fold)) | (refine' code_defC ?k1 ?k2 ?k3 ?k4 ?k5 ?kA ?kF ?kK ?k6 ?k7 ?k8 ?k9 ?kB ?kD ?_ ?c2 ?c3 ?c4; (case kA => exact rfl); (case kF => exact rfl); (case kK => first | exact rfl | assumption); (case k1 => k_asm); (case k2 => k_asm); (case k3 => k_asm); (case k4 => k_asm); (case k5 => k_asm); (case k6 => k_is); (case k7 => k_is); (case k8 => ktr_room); (case k9 => first | exact BindsTo.of_eq rfl | exact binds_K (by k_in) rfl (by k_is) rfl rfl rfl); (case kB => exact rfl); (case kD => decide +kernel); (case c2 => exact rfl); (case c3 => exact rfl); (case c4 => exact rfl); k_whole; intro g' L' h' tk' cells' FG' F' N' Y' B' X' T' l1; (try k_lt l1); k_cells Y'; (try simp only [List.cons_append, List.nil_append] at N'); (try dsimp only); (try k_lift B'); (try k_fold)))
local macro_rules | `(tactic| walk_at "call builtin:str.lower") => `(tactic| (k_here; (with_reducible show wpAny _ _ (call (Value.builtin "str.lower") [Value.str _ _]) _ _ _); k_dflt (refine' lower_to ?k1 ?k2 ?_; (case k1 => assumption); (case k2 => first | exact Nat.le_of_ble_eq_true rfl | assumption); k_whole); intro t' k'))
local macro_rules | `(tactic| walk_at "getMethod ref") => `(tactic| (k_here; (with_reducible show wpAny _ _ (getMethod (Value.ref _) (PySem.Str.ofString "search") _) _ _ _); k_dflt (refine' search_meth ?k1 ?k2 ?_; (case k1 => k_in); (case k2 => first | exact Or.inl rfl | exact Or.inr rfl); k_whole)))
local macro_rules | `(tactic| walk_at "call builtin:re.Pattern.search") => `(tactic| (k_here; (with_reducible show wpAny _ _ (call (Value.builtin "re.Pattern.search") [Value.ref _, Value.str _ _]) _ _ _); k_dflt (refine' search_none ?k1 ?k2 ?k3 ?_; (case k1 => k_in); (case k2 => first | exact Or.inl rfl | exact Or.inr rfl); (case k3 => assumption); k_whole)))
local macro_rules | `(tactic| k_room) => `(tactic| ktr_room)
local macro_rules | `(tactic| ktn_open) => `(tactic| first | exact agree_base (by assumption) | (refine' agree_step ?q1 ?q2 ?q3; (case q1 => assumption); (case q2 => decide +kernel); (case q3 => ktn_open)) | (refine' agree_in ?q1 ?q2 ?q3; (case q1 => assumption); (case q2 => decide +kernel); (case q3 => ktn_open)) | (dsimp only; ktn_open))
local macro_rules | `(tactic| k_mem) => `(tactic| (refine mem_of ?_; ktr_member))
local macro_rules | `(tactic| k_all) => `(tactic| first | assumption | (refine' off_rest ?q1 ?q2; (case q1 => first | assumption | exact restLt_of (by assumption)); (case q2 => (try dsimp only); omega)))
local macro_rules | `(tactic| walk_at "eval ListComp") => `(tactic| (k_here; refine Hold.out ?_))
local macro_rules | `(tactic| walk_at "call ref") => `(tactic| (k_here; (with_reducible show wpAny _ _ (call (Value.ref 110) [Value.ref _, Value.str _ _]) _ _ _); k_dflt (refine' del_c ?k1 ?k2 ?k3 ?k4 ?k5 ?k6 ?k7 ?k8 ?k9 ?k10 ?k11 ?k12 ?k13 ?_; (case k1 => k_asm); (case k2 => k_asm); (case k3 => k_asm); (case k4 => k_asm); (case k5 => first | exact rfl | assumption); (case k8 => k_asm); (case k9 => k_asm); (case k10 => k_asm); (case k11 => k_asm); (case k12 => k_asm); (case k13 => k_asm); (case k6 => ktr_room); (case k7 => ktr_units)); intro v' nn' h' tk' F' N'; (try k_sweep)))
local macro_rules | `(tactic| walk_at "delItem ref") => `(tactic| (k_here; (with_reducible show wpAny _ _ (delItem (Value.ref _) _) _ _ _); k_dflt (refine' delItem_own ?F ?X ?I ?hQ ?hS ?hF ?_; (case F => k_asm); (case X => k_asm); (case I => k_inst); (case hS => k_is); (case hF => k_is); (case hQ => k_is); k_whole)))
local macro_rules | `(tactic| walk_at "call builtin:list.append") => `(tactic| (k_here; (with_reducible show wpAny _ _ (call (Value.builtin _) [Value.ref _, _]) _ _ _); k_dflt (refine' append_K ?k1 ?k2 ?k3 ?_ ?z; (case k1 => k_asm); (case k2 => k_asm); (case k3 => k_upd); (case z => assumption); k_whole); intro h' F' N'; (try k_sweep)))
local macro_rules | `(tactic| walk_at "exec For Name Call cons nil") => `(tactic| (k_here; refine Hold.out ?_))
local macro_rules | `(tactic| walk_at "exec For Tuple Name cons nil") => `(tactic| (k_here; refine Hold.out ?_))
local macro_rules | `(tactic| walk_at "exec For Tuple Attribute cons nil") => `(tactic| (k_here; refine Hold.out ?_))
local macro_rules | `(tactic| walk_at "exec While UnaryOp cons nil") => `(tactic| (k_here; refine Hold.out ?_))
local macro_rules | `(tactic| walk_at "exec While Compare cons nil") => `(tactic| (k_here; refine Hold.out ?_))
local macro_rules | `(tactic| walk_at "pyIter ref") => `(tactic| (k_here; (with_reducible show wpAny _ _ (pyIter (Value.ref _)) (fun it s₂ => LoopAtV _ _ _ _ _ _ _ _ _ it s₂) _ _); refine Hold.out ?_))
theorem off_P8 : True := by
  w_top off
  trivial
-- _law_mark
def markV (ss : List Int) (b k : Int) : Int :=
  if k ≤ (ss.length : Int) then (ss.take k.toNat).sum else if b = 0 then ss.sum + (k - (ss.length : Int)) * ss.getD (ss.length - 1) 0 else max ss.sum k
theorem mark_c {w : World} {mean : ExcName → Option Value} {mg mb : Str → Option Value} {dp un : Nat} {gd : Option (List Code)} {cn : Str} {cs : Scope} {a : Addr} {ccd : Value} {cl : List (Str × Addr)} {outer : List Env} {A₀ : Around} {base h₀ : Heap} {L : Addr} {m : Str → Option Value} {s : Shared}
    {Q E : Value → Shared → Prop} (B : Below A₀ base outer h₀) (F : Fr h₀ L s.heap m) (X : (hd.heap_39 w.params).In h₀) (T : Top hd.view_39 LS mean mg mb h₀) (hk : cs.kind = .function) (hdd : dp + 5 < recursionLimit) (hu : un + 40 < cLine)
    {news : List (Addr × Obj)} {sz : Addr} {sn : Nat} {svs : List Value} {ss : List Int} {b k : Int} {t1 t2 : Tok}
    (N : News h₀ L s.heap news) (m1 : (sz, listOf svs.toArray sn) ∈ news) (hms : IntsAre svs ss) (hsl : 0 < ss.length ∧ ss.length ≤ 4) (hk0 : 1 ≤ k) (hk1 : k ≤ 100)
    (hret : ∀ t h' tk', Fr h₀ L h' m → News h₀ L h' news → InElt s.heap h' → Q (.int (markV ss b k) t) { s with heap := h', toks := tk' }) :
    wpAny (model PySem.Challenge.rw_we0022_01.row.prog w) (ktrTop dp un gd cn cs L a ccd cl outer) (call (.ref 215) [.ref sz, .int b t1, .int k t2]) Q E s := by
  revert X; k_fill; intro X
  refine wpAny_call ?_
  k_dflt (refine' code_defG ?k1 ?k2 ?k3 ?k4 ?k5 ?kA ?kF ?kK ?k6 ?k7 ?k8 ?k9 ?kB ?kh ?c2 ?c3 ?c4 ?c5)
  case kA => exact rfl
  case kF => exact rfl
  case kK => first | exact rfl | assumption
  case k1 => k_asm
  case k2 => k_asm
  case k3 => k_asm
  case k4 => k_asm
  case k5 => k_asm
  case k6 => k_is
  case k7 => k_is
  case k8 => ktr_room
  case k9 => exact BindsTo.of_eq rfl
  case kB => exact locs rfl
  case c2 => exact rfl
  case c3 => exact rfl
  case c4 => exact rfl
  case c5 => decide
  case kh =>
    intro g' L' h' FG' F' N' B' X' T' GS
    (try dsimp only)
    (try k_lift B')
    (try k_fold)
    have hsz : svs.toArray.size = ss.length := by rw [List.size_toArray]; exact hms.length
    have hfit : ss.length < 2 ^ 62 := Nat.lt_of_le_of_lt hsl.2 (by decide)
    have hln : svs.toArray.size ≤ sizeLine := by rw [hsz, sizeLine_eq]; exact Nat.le_trans hsl.2 (by decide)
    k_steps
    all_goals (try k_data)
    · (with_reducible rename Fr h₀ _ _ _ => F9)
      (with_reducible rename News h₀ _ _ _ => N9)
      (with_reducible rename Fr g' _ _ _ => F8)
      (with_reducible rename News g' _ _ _ => N8)
      have e : markV ss b k = (ss.take k.toNat).sum := by rw [markV, if_pos (by omega)]
      rw [← e]
      exact hret _ _ _ F9 (N9.perm fun p hp => .tail _ hp) (elt_after (InElt.start _) GS N F8 N8 fun p hp => .tail _ hp)
    · refine LSm.sum_ints F' N' rfl (news_list N' m1) hms ?_
      intro h2 tk2 t3 F2 N2
      clear F' N'
      k_steps
      all_goals (try k_data)
      (with_reducible rename Fr g' _ _ _ => F3)
      (with_reducible rename News g' _ _ _ => N3)
      refine item_list_ints_neg (news_list N3 m1) hms (by omega) (by omega) (by omega) (fun t4 => ?_)
      have eidx : ((-1 : Int) + (ss.length : Int)).toNat = ss.length - 1 := by omega
      rw [eidx]
      k_steps
      all_goals (try k_data)
      (with_reducible rename Fr h₀ _ _ _ => F9)
      (with_reducible rename News h₀ _ _ _ => N9)
      (with_reducible rename Fr g' _ _ _ => F8)
      (with_reducible rename News g' _ _ _ => N8)
      have e : markV ss b k = ss.sum + (k - (ss.length : Int)) * ss.getD (ss.length - 1) 0 := by rw [markV, if_neg (by omega), if_pos (by omega)]
      rw [← e]
      exact hret _ _ _ F9 N9 (elt_after (InElt.start _) GS N F8 N8 fun p hp => hp)
    · refine LSm.sum_ints F' N' rfl (news_list N' m1) hms ?_
      intro h2 tk2 t3 F2 N2
      clear F' N'
      k_steps
      all_goals (try k_data)
      (with_reducible rename Fr h₀ _ _ _ => F9)
      (with_reducible rename News h₀ _ _ _ => N9)
      (with_reducible rename Fr g' _ _ _ => F8)
      (with_reducible rename News g' _ _ _ => N8)
      have e : markV ss b k = if k > ss.sum then k else ss.sum := by
        rw [markV, if_neg (by omega), if_neg (by omega)]
        split
        · rw [Int.max_eq_right (by omega)]
        · rw [Int.max_eq_left (by omega)]
      rw [← e]
      exact hret _ _ _ F9 N9 (elt_after (InElt.start _) GS N F8 N8 fun p hp => hp)
end
section
local macro_rules | `(tactic| ktr_enter) => `(tactic| first | (refine' code_def ?k1 ?k2 ?k3 ?k4 ?k5 ?kA ?kF ?kK ?k6 ?k7 ?k8 ?k9 ?kB ?_ ?c2 ?c3 ?c4 ?c5; (case kA => exact rfl); (case kF => exact rfl); (case kK => first | exact rfl | assumption); (case k1 => k_asm); (case k2 => k_asm); (case k3 => k_asm); (case k4 => k_asm); (case k5 => k_asm); (case k6 => k_is); (case k7 => k_is); (case k8 => ktr_room); (case k9 => first | exact BindsTo.of_eq rfl | exact binds_K (by k_in) rfl (by k_is) rfl rfl rfl); (case c5 => decide); (case kB => exact locs rfl); (case c2 => exact rfl); (case c3 => exact rfl); (case c4 => exact rfl); k_whole; intro g' L' h' FG' F' N' B' X' T'; (try dsimp only); (try k_lift B'); (try k_fold)) | (refine' code_defC ?k1 ?k2 ?k3 ?k4 ?k5 ?kA ?kF ?kK ?k6 ?k7 ?k8 ?k9 ?kB ?kD ?_ ?c2 ?c3 ?c4; (case kA => exact rfl); (case kF => exact rfl); (case kK => first | exact rfl | assumption); (case k1 => k_asm); (case k2 => k_asm); (case k3 => k_asm); (case k4 => k_asm); (case k5 => k_asm); (case k6 => k_is); (case k7 => k_is); (case k8 => ktr_room); (case k9 => first | exact BindsTo.of_eq rfl | exact binds_K (by k_in) rfl (by k_is) rfl rfl rfl); (case kB => exact rfl); (case kD => decide +kernel); (case c2 => exact rfl); (case c3 => exact rfl); (case c4 => exact rfl); k_whole; intro g' L' h' tk' cells' FG' F' N' Y' B' X' T' l1; (try k_lt l1); k_cells Y'; (try simp only [List.cons_append, List.nil_append] at N'); (try dsimp only); (try k_lift B'); (try k_fold)))
local macro_rules | `(tactic| walk_at "call builtin:str.lower") => `(tactic| (k_here; (with_reducible show wpAny _ _ (call (Value.builtin "str.lower") [Value.str _ _]) _ _ _); k_dflt (refine' lower_to ?k1 ?k2 ?_; (case k1 => assumption); (case k2 => first | exact Nat.le_of_ble_eq_true rfl | assumption); k_whole); intro t' k'))
local macro_rules | `(tactic| walk_at "getMethod ref") => `(tactic| (k_here; (with_reducible show wpAny _ _ (getMethod (Value.ref _) (PySem.Str.ofString "search") _) _ _ _); k_dflt (refine' search_meth ?k1 ?k2 ?_; (case k1 => k_in); (case k2 => first | exact Or.inl rfl | exact Or.inr rfl); k_whole)))
local macro_rules | `(tactic| walk_at "call builtin:re.Pattern.search") => `(tactic| (k_here; (with_reducible show wpAny _ _ (call (Value.builtin "re.Pattern.search") [Value.ref _, Value.str _ _]) _ _ _); k_dflt (refine' search_none ?k1 ?k2 ?k3 ?_; (case k1 => k_in); (case k2 => first | exact Or.inl rfl | exact Or.inr rfl); (case k3 => assumption); k_whole)))
local macro_rules | `(tactic| k_room) => `(tactic| ktr_room)
local macro_rules | `(tactic| ktn_open) => `(tactic| first | exact agree_base (by assumption) | (refine' agree_step ?q1 ?q2 ?q3; (case q1 => assumption); (case q2 => decide +kernel); (case q3 => ktn_open)) | (refine' agree_in ?q1 ?q2 ?q3; (case q1 => assumption); (case q2 => decide +kernel); (case q3 => ktn_open)) | (dsimp only; ktn_open))
local macro_rules | `(tactic| k_mem) => `(tactic| (refine mem_of ?_; ktr_member))
local macro_rules | `(tactic| k_all) => `(tactic| first | assumption | (refine' off_rest ?q1 ?q2; (case q1 => first | assumption | exact restLt_of (by assumption)); (case q2 => (try dsimp only); omega)))
local macro_rules | `(tactic| walk_at "eval ListComp") => `(tactic| (k_here; refine Hold.out ?_))
local macro_rules | `(tactic| walk_at "call ref") => `(tactic| (k_here; (with_reducible show wpAny _ _ (call (Value.ref 110) [Value.ref _, Value.str _ _]) _ _ _); k_dflt (refine' del_c ?k1 ?k2 ?k3 ?k4 ?k5 ?k6 ?k7 ?k8 ?k9 ?k10 ?k11 ?k12 ?k13 ?_; (case k1 => k_asm); (case k2 => k_asm); (case k3 => k_asm); (case k4 => k_asm); (case k5 => first | exact rfl | assumption); (case k8 => k_asm); (case k9 => k_asm); (case k10 => k_asm); (case k11 => k_asm); (case k12 => k_asm); (case k13 => k_asm); (case k6 => ktr_room); (case k7 => ktr_units)); intro v' nn' h' tk' F' N'; (try k_sweep)))
local macro_rules | `(tactic| walk_at "delItem ref") => `(tactic| (k_here; (with_reducible show wpAny _ _ (delItem (Value.ref _) _) _ _ _); k_dflt (refine' delItem_own ?F ?X ?I ?hQ ?hS ?hF ?_; (case F => k_asm); (case X => k_asm); (case I => k_inst); (case hS => k_is); (case hF => k_is); (case hQ => k_is); k_whole)))
local macro_rules | `(tactic| walk_at "call builtin:list.append") => `(tactic| (k_here; (with_reducible show wpAny _ _ (call (Value.builtin _) [Value.ref _, _]) _ _ _); k_dflt (refine' append_K ?k1 ?k2 ?k3 ?_ ?z; (case k1 => k_asm); (case k2 => k_asm); (case k3 => k_upd); (case z => assumption); k_whole); intro h' F' N'; (try k_sweep)))
local macro_rules | `(tactic| walk_at "exec For Name Call cons nil") => `(tactic| (k_here; refine Hold.out ?_))
local macro_rules | `(tactic| walk_at "exec For Tuple Name cons nil") => `(tactic| (k_here; refine Hold.out ?_))
local macro_rules | `(tactic| walk_at "exec For Tuple Attribute cons nil") => `(tactic| (k_here; refine Hold.out ?_))
local macro_rules | `(tactic| walk_at "exec While UnaryOp cons nil") => `(tactic| (k_here; refine Hold.out ?_))
local macro_rules | `(tactic| walk_at "exec While Compare cons nil") => `(tactic| (k_here; refine Hold.out ?_))
local macro_rules | `(tactic| walk_at "pyIter ref") => `(tactic| (k_here; (with_reducible show wpAny _ _ (pyIter (Value.ref _)) (fun it s₂ => LoopAtV _ _ _ _ _ _ _ _ _ it s₂) _ _); refine Hold.out ?_))
local macro_rules | `(tactic| walk_at "no such place") => `(tactic| fail)
theorem off_P9 : True := by
  w_top off
  trivial
-- _law_numbers
def lastN (ns : List Int) : Int := ns.getD (ns.length - 1) 0
def fitN (ss : List Int) (b : Int) (ns : List Int) : List Int := ns.filter fun one => decide (markV ss b one ≥ lastN ns)
def stepN (ss : List Int) (b : Int) (ns : List Int) : List Int := ns ++ [lastN ns + (fitN ss b ns).getD 0 0]
def numsT (ss : List Int) (b : Int) : Nat → List Int → List Int
  | 0, ns => ns
  | f + 1, ns => if lastN ns < 12 then numsT ss b f (stepN ss b ns) else ns
theorem sum_take_ge : ∀ (ss : List Int) (n : Nat), (∀ x ∈ ss, 1 ≤ x) → n ≤ ss.length → (n : Int) ≤ (ss.take n).sum
  | _, 0, _, _ => by simp
  | [], n + 1, _, h => by simp at h
  | x :: ss, n + 1, hx, h => by
    have := sum_take_ge ss n (fun y hy => hx y (.tail _ hy)) (by simpa using h)
    have := hx x (.head _)
    rw [List.take_succ_cons, List.sum_cons]
    omega
theorem getD_mem {l : List Int} {j : Nat} (h : j < l.length) : l.getD j 0 ∈ l := by
  simp only [List.getD, List.getElem?_eq_getElem h, Option.getD_some]
  exact List.getElem_mem h
theorem markV_ge {ss : List Int} {b k : Int} (h0 : 0 < ss.length) (hx : ∀ x ∈ ss, 1 ≤ x) (hk : 1 ≤ k) : k ≤ markV ss b k := by
  unfold markV
  split
  · have := sum_take_ge ss k.toNat hx (by omega)
    omega
  · have hs := sum_take_ge ss ss.length hx (Nat.le_refl _)
    rw [List.take_length] at hs
    split
    · have hl := hx _ (getD_mem (l := ss) (j := ss.length - 1) (by omega))
      have := Int.mul_le_mul_of_nonneg_left hl (show 0 ≤ k - (ss.length : Int) by omega)
      omega
    · exact Int.le_max_right _ _
theorem lastN_mem {ns : List Int} (h : 0 < ns.length) : lastN ns ∈ ns := getD_mem (by omega)
theorem fit_pos {ss : List Int} {b : Int} {ns : List Int} (h0 : 0 < ss.length) (hx : ∀ x ∈ ss, 1 ≤ x) (hn : 0 < ns.length) (hb : ∀ x ∈ ns, 1 ≤ x) : 0 < (fitN ss b ns).length :=
  List.length_pos_of_mem (List.mem_filter.mpr ⟨lastN_mem hn, by simpa using markV_ge h0 hx (hb _ (lastN_mem hn))⟩)
theorem lastN_snoc (ns : List Int) (x : Int) : lastN (ns ++ [x]) = x := by
  simp [lastN, List.getD]
structure NumsOk (ss : List Int) (b : Int) (ns : List Int) (i : Nat) : Prop where
  len : ns.length = i + 1
  top : i ≤ 11
  low : (i : Int) + 1 ≤ lastN ns
  all : ∀ x ∈ ns, 1 ≤ x ∧ x ≤ lastN ns
  cap : lastN ns ≤ 24
  run : numsT ss b 12 [1] = numsT ss b (12 - i) ns
theorem numsOk_step {ss : List Int} {b : Int} {ns : List Int} {i : Nat} (h0 : 0 < ss.length) (hx : ∀ x ∈ ss, 1 ≤ x) (O : NumsOk ss b ns i) (hl : lastN ns < 12) : NumsOk ss b (stepN ss b ns) (i + 1) := by
  obtain ⟨h1, h2, h3, h4, h6, h5⟩ := O
  have hp := fit_pos (b := b) h0 hx (ns := ns) (by omega) fun x hx => (h4 x hx).1
  have hm := getD_mem hp
  have hf := h4 _ (List.mem_filter.mp hm).1
  have hs : lastN (stepN ss b ns) = lastN ns + (fitN ss b ns).getD 0 0 := by rw [stepN, lastN_snoc]
  refine ⟨?_, by omega, ?_, ?_, ?_, ?_⟩
  · rw [stepN, List.length_append, h1]; rfl
  · rw [hs]; omega
  · intro x hx
    rw [hs]
    rcases List.mem_append.mp hx with hx | hx
    · have := h4 x hx
      omega
    · rw [List.mem_singleton.mp hx]
      omega
  · rw [hs]; omega
  · obtain ⟨f, ef⟩ : ∃ f, 12 - i = f + 1 := ⟨11 - i, by omega⟩
    have ef2 : 12 - (i + 1) = f := by omega
    rw [h5, ef, ef2, numsT, if_pos hl]
section
variable {prog : Program} {w : World} {A : Around} {E : Value → Shared → Prop} {Q : Flow → Shared → Prop} {s : Shared} {env : Env} {h₀ : Heap} {L : Addr}
-- a while whose turns let one list of ints grow
theorem while_ints (st : List Str) (Pi : List Int → Prop) (mu : List Int → Nat) {ln : Addr} {rest : List (Addr × Obj)} {test : Expr} {body : List Stmt} {pos : Pos} {m₀ : Str → Option Value} {vs₀ : List Value} {nn₀ : Nat} {ns₀ : List Int}
    (F : Fr h₀ L s.heap m₀) (N : News h₀ L s.heap ((ln, listOf vs₀.toArray nn₀) :: rest)) (hi : IntsAre vs₀ ns₀) (hp : Pi ns₀)
    (turn : ∀ (vs : List Value) (nn : Nat) (ns : List Int) (u : Str → Option Value) h₁ tk₁, IntsAre vs ns → Pi ns → Fr h₀ L h₁ (fun y => if st.contains y then u y else m₀ y) → News h₀ L h₁ ((ln, listOf vs.toArray nn) :: rest) →
      wpAny (model prog w) A (isTrue test env (eval test env)) (fun b s₂ =>
        if b = true then wpAny (model prog w) A (execs body env) (WhileStep2 h₀ L s (fun n m₂ n₂ => (∀ y, st.contains y = false → m₂ y = m₀ y) ∧ ∃ vs' nn' ns', n₂ = (ln, listOf (List.toArray vs') nn') :: rest ∧ IntsAre vs' ns' ∧ Pi ns' ∧ n = mu ns') Q (mu ns)) E s₂ else Q .next s₂) E { s with heap := h₁, toks := tk₁ })
    (hE : PassesOwn (model prog w) A env E := by passes_own) :
    wpAny (model prog w) A (exec (.While test body [] pos) env) Q E s := by
  refine While_inv2 (fun n m₂ n₂ => (∀ y, st.contains y = false → m₂ y = m₀ y) ∧ ∃ vs' nn' ns', n₂ = (ln, listOf (List.toArray vs') nn') :: rest ∧ IntsAre vs' ns' ∧ Pi ns' ∧ n = mu ns') F N (n₀ := mu ns₀) ⟨fun _ _ => rfl, _, _, _, rfl, hi, hp, rfl⟩ ?_ hE
  rintro n m₁ news₁ h₁ tk₁ F₁ N₁ ⟨hag, vs, nn, ns, rfl, hvs, hpn, rfl⟩
  rw [agree_eq st hag] at F₁
  exact turn vs nn ns m₁ h₁ tk₁ hvs hpn F₁ N₁
end
-- `y = [.. for x in list if ..]`
theorem assign_comp {prog : Program} {w : World} {A : Around} {E : Value → Shared → Prop} {s : Shared} {env : Env} {g : Heap} {Q : Flow → Shared → Prop} {elt : Expr} {x y z : Str} {px py pz : Pos} {ifs : List Expr} {scope : Scope} {cl : List (Str × Addr)} {pos spos : Pos} {m : Str → Option Value} {news : List (Addr × Obj)} {l : Addr} {items : Array Value} (p : Value → Bool) (Fv : Value → Value → Prop)
    (hsw : swapsWith (.ListComp elt [⟨.Name x px, .Name z pz, ifs, 0⟩] scope pos) (some (.Name y py)) spos.line env = pure true)
    (hclos : closureFor scope env = pure cl) (hcell : ∀ z ∈ scope.names, z.2 ≠ .cell) (hkind : scope.kind = .function)
    (hnames : ∀ z ∈ scope.names, z.2 = .local → scope.names.lookup z.1 = some .local) (hx : scope.names.lookup x = some .local)
    (hy : env.kindOf y = some .local) (hp : (env.scope.kind == .class || (env.scope.kind == .module && env.locals != env.globals)) = false) (hs : ∀ x, foldedSetIterable (.Name z pz) env x = pure x)
    (hz : wpAny (model prog w) A (eval (.Name z pz) env) (fun v s₁ => v = .ref l ∧ s₁ = s) E s)
    (hh : A.handled = none) (hl : s.heap.IsList l items) (hsz : items.size ≤ sizeLine) (F : Fr g env.locals s.heap m) (N : News g env.locals s.heap news)
    (tests : ∀ C v h tk (u : Str → Option Value) gs dr os E', v ∈ items.toList → Fr g C h (fun y => if y = x then some v else u y) → News g C h news → Fr g env.locals h m → News g env.locals h news → env.locals < C →
      wpAny (model prog w) A (forIn ifs true fun c r => if r = true then do let ok ← isTrue c (compEnvC scope cl C env) (eval c (compEnvC scope cl C env)); pure (ForInStep.yield ok) else pure (ForInStep.yield r))
        (fun ok s₄ => ok = p v ∧ Keeps ⟨h, gs, dr, tk, os⟩ s₄) E' ⟨h, gs, dr, tk, os⟩)
    (elts : ∀ C v h tk (u : Str → Option Value) gs dr os E', v ∈ items.toList → p v = true → Fr g C h (fun y => if y = x then some v else u y) → News g C h news → Fr g env.locals h m → News g env.locals h news → env.locals < C →
      wpAny (model prog w) A (eval elt (compEnvC scope cl C env)) (fun y s₄ => Fv v y ∧ Keeps ⟨h, gs, dr, tk, os⟩ s₄) E' ⟨h, gs, dr, tk, os⟩)
    (done : ∀ D h' tk ys n, Paired Fv (items.toList.filter p) ys.toList → Fr g env.locals h' (fun z => if z = y then some (.ref D) else m z) → News g env.locals h' ((D, listOf ys n) :: news) → (∀ p ∈ news, p.1 ≠ D) → Q .next { s with heap := h', toks := tk }) :
    wpAny (model prog w) A (exec (.Assign [.Name y py] (.ListComp elt [⟨.Name x px, .Name z pz, ifs, 0⟩] scope pos) spos) env) Q E s := by
  refine wpAny_Assign_ListComp_free p Fv hsw hclos hcell hkind hnames hx hy hp ?_ hs
  refine wpAny_mono hz (fun v s₁ hv => ?_) fun _ _ e => e
  obtain ⟨rfl, rfl⟩ := hv
  have hlt : l < s₁.heap.objs.size := by obtain ⟨_, e, _⟩ := hl; exact Heap.lt_size e
  refine wpAny_pyIter_list hl ?_
  have hI : s₁.heap.get? s₁.heap.objs.size = none := Heap.get?_none_of_le (Nat.le_refl _)
  have hpush : ∀ o b o', s₁.heap.get? b = some o' → (s₁.heap.push o).get? b = some o' := fun o b o' e => Heap.get?_push_of_some _ e
  have hwr : ∀ b ∈ [s₁.heap.objs.size], s₁.heap.get? b = none := fun b hb => by rw [List.mem_singleton.mp hb]; exact hI
  have hLI : env.locals ∉ [s₁.heap.objs.size] := fun h => absurd F.ns.lt ((List.mem_singleton.mp h) ▸ Nat.lt_irrefl _)
  refine ⟨s₁.heap.objs.size, [s₁.heap.objs.size, l], [s₁.heap.objs.size], items.size, _, _, m, rfl, Walks.list hh _ l (Nat.ne_of_lt hlt) items, hsz, ⟨⟨_, Heap.get?_push_size _ rfl, rfl, rfl⟩, hl.at fun o e => Heap.get?_push_of_some _ e⟩, ?_, hLI, F.ns.push _, ?_, ?_⟩
  · intro b hb
    show b < (s₁.heap.push _).objs.size
    rw [Heap.size_push]
    rcases List.mem_cons.mp hb with rfl | hb
    · exact Nat.lt_succ_self _
    · rw [List.mem_singleton.mp hb]; exact Nat.lt_succ_of_lt hlt
  · have hmem : ∀ (i : Nat) (v : Value), items[i]? = some v → v ∈ items.toList := fun i v e => by
      rw [Array.mem_toList_iff]; exact Array.mem_of_getElem? e
    have hsC : ∀ C o, (s₁.heap.push o).objs.size ≤ C → s₁.heap.objs.size ≤ C := fun C o hC => by rw [Heap.size_push] at hC; omega
    constructor
    · rintro C i v ⟨h, gs, dr, tk, os⟩ m₃ E' hC hP hn hm hk htk
      obtain ⟨f1, f2, f3, f4, f5⟩ := comp_fr (wr := [s₁.heap.objs.size]) F N (hsC C _ hC) hn hm (fun b o hb e => hk b o hb (hpush _ b o e)) hwr
      exact tests C v h tk m₃ gs dr os E' (hmem i v hP) f1 f2 f3 f4 f5
    · rintro C i v ⟨h, gs, dr, tk, os⟩ m₃ E' hC hP hpv hn hm hk htk
      obtain ⟨f1, f2, f3, f4, f5⟩ := comp_fr (wr := [s₁.heap.objs.size]) F N (hsC C _ hC) hn hm (fun b o hb e => hk b o hb (hpush _ b o e)) hwr
      exact elts C v h tk m₃ gs dr os E' (hmem i v hP) hpv f1 f2 f3 f4 f5
  · intro D h' tk ys vs hD hl' hpl hlen hP hpair hns hk
    have hvs : vs = items.toList := by
      apply List.ext_getElem?
      intro j
      by_cases hj : j < vs.length
      · have e := hP j _ (List.getElem?_eq_getElem hj)
        rw [List.getElem?_eq_getElem hj, Array.getElem?_toList]
        exact e.symm
      · rw [List.getElem?_eq_none (Nat.le_of_not_lt hj), List.getElem?_eq_none]
        simp; omega
    subst hvs
    have up : ∀ b o, b ≠ env.locals → s₁.heap.get? b = some o → h'.get? b = some o := fun b o hb e => hk b o hb (fun hb => by rw [hwr b hb] at e; cases e) (hpush _ b o e)
    have hDn : ∀ b o, s₁.heap.get? b = some o → b ≠ D := fun b o e hb => by
      subst hb
      exact nomatch (hD.symm.trans (Heap.get?_push_of_some _ e))
    have hgL : ∀ b o, g.get? b = some o → b ≠ env.locals := fun b o e => Nat.ne_of_lt (Nat.lt_of_lt_of_le (Heap.lt_size e) F.above)
    obtain ⟨n, hn⟩ := hpl
    refine done D h' tk ys n hpair ⟨hns, fun b o e => up b o (hgL b o e) (F.keep b o e), F.above⟩ ?_ fun q hq => hDn _ _ (N q hq).1
    intro q hq
    rcases List.mem_cons.mp hq with rfl | hq
    · refine ⟨hn, fun e => ?_, ?_⟩
      · obtain ⟨o, _, _, ho, _⟩ := F.ns
        exact hDn _ _ ho e.symm
      · cases e : g.get? D with
        | none => rfl
        | some o => exact absurd rfl (hDn _ _ (F.keep _ _ e))
    · exact ⟨up _ _ (N q hq).2.1 (N q hq).1, (N q hq).2⟩
def valN : Value → Int
  | .int k _ => k
  | _ => 0
theorem ints_filter {q : Int → Bool} : ∀ {vs : List Value} {ns : List Int}, IntsAre vs ns → IntsAre (vs.filter fun v => q (valN v)) (ns.filter q)
  | _, _, .nil => .nil
  | _, _, .cons n t h => by
    have ih := ints_filter (q := q) h
    simp only [List.filter_cons, valN]
    cases q n with
    | true => exact .cons n t ih
    | false => exact ih
theorem news_drop2 {g h : Heap} {L : Addr} {a b : Addr × Obj} {rest : List (Addr × Obj)} (N : News g L h (a :: b :: rest)) : News g L h (a :: rest) := fun p hp => by
  rcases List.mem_cons.mp hp with rfl | hp
  · exact N _ (.head _)
  · exact N _ (.tail _ (.tail _ hp))
theorem lt_all {d : Addr} {l : List (Addr × Obj)} (h : AllLt d l) : ∀ q ∈ l, q.1 ≠ d := by
  induction l with
  | nil => intro q hq; cases hq
  | cons p l ih =>
    intro q hq
    rcases List.mem_cons.mp hq with rfl | hq
    · exact Nat.ne_of_lt h.1
    · exact ih h.2 q hq
theorem cells3_off {g h : Heap} {L a b c d ln : Addr} {o od o1 o2 o3 : Obj} {news : List (Addr × Obj)} (_ : News g L h ((ln, o) :: (d, od) :: (a, o1) :: (b, o2) :: (c, o3) :: news)) (hd : d ≠ ln) (h : a < ln ∧ b < ln ∧ c < ln ∧ AllLt ln news) : ∀ q ∈ (d, od) :: (a, o1) :: (b, o2) :: (c, o3) :: news, q.1 ≠ ln :=
  off_cons hd (off_cons (Nat.ne_of_lt h.1) (off_cons (Nat.ne_of_lt h.2.1) (off_cons (Nat.ne_of_lt h.2.2.1) (lt_all h.2.2.2))))
theorem numsT_done {ss : List Int} {b : Int} {ns : List Int} (h : ¬ lastN ns < 12) : ∀ f, numsT ss b f ns = ns
  | 0 => rfl
  | f + 1 => by rw [numsT, if_neg h]
def bsF {g h : Heap} {L : Addr} {m : Str → Option Value} (_ : Fr g L h m) : Heap := g

theorem ints_conc {vs : List Value} {ns : List Int} {k : Int} {t : Tok} (h : IntsAre vs ns) : IntsAre (vs.toArray.toList.concat (.int k t)) (ns ++ [k]) := by
  rw [List.concat_eq_append]
  exact h.append (IntsAre.cons _ _ IntsAre.nil)
end
section
local macro_rules | `(tactic| ktr_enter) => `(tactic| first | (refine' code_def ?k1 ?k2 ?k3 ?k4 ?k5 ?kA ?kF ?kK ?k6 ?k7 ?k8 ?k9 ?kB ?_ ?c2 ?c3 ?c4 ?c5; (case kA => exact rfl); (case kF => exact rfl); (case kK => first | exact rfl | assumption); (case k1 => k_asm); (case k2 => k_asm); (case k3 => k_asm); (case k4 => k_asm); (case k5 => k_asm); (case k6 => k_is); (case k7 => k_is); (case k8 => ktr_room); (case k9 => first | exact BindsTo.of_eq rfl | exact binds_K (by k_in) rfl (by k_is) rfl rfl rfl); (case c5 => decide); (case kB => exact locs rfl); (case c2 => exact rfl); (case c3 => exact rfl); (case c4 => exact rfl); k_whole; intro g' L' h' FG' F' N' B' X' T'; (try dsimp only); (try k_lift B'); (try k_fold)) | (refine' code_defC ?k1 ?k2 ?k3 ?k4 ?k5 ?kA ?kF ?kK ?k6 ?k7 ?k8 ?k9 ?kB ?kD ?_ ?c2 ?c3 ?c4; (case kA => exact rfl); (case kF => exact rfl); (case kK => first | exact rfl | assumption); (case k1 => k_asm); (case k2 => k_asm); (case k3 => k_asm); (case k4 => k_asm); (case k5 => k_asm); (case k6 => k_is); (case k7 => k_is); (case k8 => ktr_room); (case k9 => first | exact BindsTo.of_eq rfl | exact binds_K (by k_in) rfl (by k_is) rfl rfl rfl); (case kB => exact rfl); (case kD => decide +kernel); (case c2 => exact rfl); (case c3 => exact rfl); (case c4 => exact rfl); k_whole; intro g' L' h' tk' cells' FG' F' N' Y' B' X' T' l1; (try k_lt l1); k_cells Y'; (try simp only [List.cons_append, List.nil_append] at N'); (try dsimp only); (try k_lift B'); (try k_fold)))
local macro_rules | `(tactic| walk_at "call builtin:str.lower") => `(tactic| (k_here; (with_reducible show wpAny _ _ (call (Value.builtin "str.lower") [Value.str _ _]) _ _ _); k_dflt (refine' lower_to ?k1 ?k2 ?_; (case k1 => assumption); (case k2 => first | exact Nat.le_of_ble_eq_true rfl | assumption); k_whole); intro t' k'))
local macro_rules | `(tactic| walk_at "getMethod ref") => `(tactic| (k_here; (with_reducible show wpAny _ _ (getMethod (Value.ref _) (PySem.Str.ofString "search") _) _ _ _); k_dflt (refine' search_meth ?k1 ?k2 ?_; (case k1 => k_in); (case k2 => first | exact Or.inl rfl | exact Or.inr rfl); k_whole)))
local macro_rules | `(tactic| walk_at "call builtin:re.Pattern.search") => `(tactic| (k_here; (with_reducible show wpAny _ _ (call (Value.builtin "re.Pattern.search") [Value.ref _, Value.str _ _]) _ _ _); k_dflt (refine' search_none ?k1 ?k2 ?k3 ?_; (case k1 => k_in); (case k2 => first | exact Or.inl rfl | exact Or.inr rfl); (case k3 => assumption); k_whole)))
local macro_rules | `(tactic| k_room) => `(tactic| ktr_room)
local macro_rules | `(tactic| ktn_open) => `(tactic| first | exact agree_base (by assumption) | (refine' agree_step ?q1 ?q2 ?q3; (case q1 => assumption); (case q2 => decide +kernel); (case q3 => ktn_open)) | (refine' agree_in ?q1 ?q2 ?q3; (case q1 => assumption); (case q2 => decide +kernel); (case q3 => ktn_open)) | (dsimp only; ktn_open))
local macro_rules | `(tactic| k_mem) => `(tactic| (refine mem_of ?_; ktr_member))
local macro_rules | `(tactic| k_all) => `(tactic| first | assumption | (refine' off_rest ?q1 ?q2; (case q1 => first | assumption | exact restLt_of (by assumption)); (case q2 => (try dsimp only); omega)))
local macro_rules | `(tactic| walk_at "eval ListComp") => `(tactic| (k_here; refine Hold.out ?_))
local macro_rules | `(tactic| walk_at "call ref") => `(tactic| (k_here; (with_reducible show wpAny _ _ (call (Value.ref 110) [Value.ref _, Value.str _ _]) _ _ _); k_dflt (refine' del_c ?k1 ?k2 ?k3 ?k4 ?k5 ?k6 ?k7 ?k8 ?k9 ?k10 ?k11 ?k12 ?k13 ?_; (case k1 => k_asm); (case k2 => k_asm); (case k3 => k_asm); (case k4 => k_asm); (case k5 => first | exact rfl | assumption); (case k8 => k_asm); (case k9 => k_asm); (case k10 => k_asm); (case k11 => k_asm); (case k12 => k_asm); (case k13 => k_asm); (case k6 => ktr_room); (case k7 => ktr_units)); intro v' nn' h' tk' F' N'; (try k_sweep)))
local macro_rules | `(tactic| walk_at "delItem ref") => `(tactic| (k_here; (with_reducible show wpAny _ _ (delItem (Value.ref _) _) _ _ _); k_dflt (refine' delItem_own ?F ?X ?I ?hQ ?hS ?hF ?_; (case F => k_asm); (case X => k_asm); (case I => k_inst); (case hS => k_is); (case hF => k_is); (case hQ => k_is); k_whole)))
local macro_rules | `(tactic| walk_at "call builtin:list.append") => `(tactic| (k_here; (with_reducible show wpAny _ _ (call (Value.builtin _) [Value.ref _, _]) _ _ _); k_dflt (refine' append_K ?k1 ?k2 ?k3 ?_ ?z; (case k1 => k_asm); (case k2 => k_asm); (case k3 => k_upd); (case z => assumption); k_whole); intro h' F' N'; (try k_sweep)))
local macro_rules | `(tactic| walk_at "exec For Name Call cons nil") => `(tactic| (k_here; refine Hold.out ?_))
local macro_rules | `(tactic| walk_at "exec For Tuple Name cons nil") => `(tactic| (k_here; refine Hold.out ?_))
local macro_rules | `(tactic| walk_at "exec For Tuple Attribute cons nil") => `(tactic| (k_here; refine Hold.out ?_))
local macro_rules | `(tactic| walk_at "exec While UnaryOp cons nil") => `(tactic| (k_here; refine Hold.out ?_))
local macro_rules | `(tactic| walk_at "exec While Compare cons nil") => `(tactic| (k_here; refine Hold.out ?_))
local macro_rules | `(tactic| walk_at "pyIter ref") => `(tactic| (k_here; (with_reducible show wpAny _ _ (pyIter (Value.ref _)) (fun it s₂ => LoopAtV _ _ _ _ _ _ _ _ _ it s₂) _ _); refine Hold.out ?_))
theorem off_PA : True := by
  w_top off
  trivial
local macro_rules | `(tactic| walk_at "exec Assign cons ListComp") => `(tactic| (k_here; refine Hold.out ?_))
local macro_rules | `(tactic| walk_at "call ref") => `(tactic| (k_here; (show wpAny _ _ (call (Value.ref 215) _ _) _ _ _); refine Hold.out ?_))
theorem numbers_c {w : World} {mean : ExcName → Option Value} {mg mb : Str → Option Value} {dp un : Nat} {gd : Option (List Code)} {cn : Str} {cs : Scope} {a : Addr} {ccd : Value} {cl : List (Str × Addr)} {outer : List Env} {A₀ : Around} {base h₀ : Heap} {L : Addr} {m : Str → Option Value} {s : Shared}
    {Q E : Value → Shared → Prop} (B : Below A₀ base outer h₀) (F : Fr h₀ L s.heap m) (X : (hd.heap_39 w.params).In h₀) (T : Top hd.view_39 LS mean mg mb h₀) (hk : cs.kind = .function) (hdd : dp + 9 < recursionLimit) (hu : un + 72 < cLine)
    {news : List (Addr × Obj)} {sz : Addr} {sn : Nat} {svs : List Value} {ss : List Int} {b : Int} {t1 : Tok}
    (N : News h₀ L s.heap news) (m1 : (sz, listOf svs.toArray sn) ∈ news) (hms : IntsAre svs ss) (hsl : 0 < ss.length ∧ ss.length ≤ 4) (hsb : ∀ x ∈ ss, 1 ≤ x ∧ x ≤ 5)
    (hret : ∀ r vs nn h' tk', Fr h₀ L h' m → News h₀ L h' ((r, listOf (List.toArray vs) nn) :: news) → (∀ p ∈ news, p.1 ≠ r) → IntsAre vs (numsT ss b 12 [1]) → Q (.ref r) { s with heap := h', toks := tk' }) :
    wpAny (model PySem.Challenge.rw_we0022_01.row.prog w) (ktrTop dp un gd cn cs L a ccd cl outer) (call (.ref 220) [.ref sz, .int b t1]) Q E s := by
  revert X; k_fill; intro X
  refine wpAny_call ?_
  k_dflt ktr_enter
  k_steps
  all_goals (try k_data)
  refine Hold.mk ?_
  (with_reducible rename Fr _ _ _ _ => F1)
  (with_reducible rename News _ _ _ _ => N1)
  obtain ⟨ln, ex⟩ : ∃ x, x = ad1 N1 := ⟨_, rfl⟩
  dsimp only [ad1] at ex
  subst ex
  obtain ⟨L1, ex⟩ : ∃ x, x = lcF F1 := ⟨_, rfl⟩
  dsimp only [lcF] at ex
  subst ex
  obtain ⟨g1, ex⟩ : ∃ x, x = bsF F1 := ⟨_, rfl⟩
  dsimp only [bsF] at ex
  subst ex
  (rename _ ∧ _ ∧ _ ∧ AllLt ln news => l1)
  (rename ∀ p ∈ news, p.1 < L1 => l0)
  refine' while_ints [Str.ofString "fit"] (fun ns => ∃ i, NumsOk ss b ns i) (fun ns => (12 - lastN ns).toNat) ?FF ?NN ?hi ?hp ?turn
  case FF => exact F1
  case NN => exact N1
  case hi => exact IntsAre.cons _ _ IntsAre.nil
  case hp => exact ⟨0, rfl, by decide, by decide, by decide, by decide, rfl⟩
  case turn =>
    rintro vs nn ns u h1 tk1 hvs ⟨i, O⟩ F2 N2
    clear F1 N1
    k_steps
    all_goals (try k_data)
    (with_reducible rename Fr g1 _ _ _ => F3)
    (with_reducible rename News g1 _ _ _ => N3)
    refine item_list_ints_neg (news_list N3 (.head _)) hvs (by omega) (by rw [O.len]; omega) (by omega) (fun t4 => ?_)
    have eidx : ((-1 : Int) + (ns.length : Int)).toNat = ns.length - 1 := by rw [O.len]; omega
    rw [eidx]
    show wpAny _ _ _ _ _ _
    k_steps
    all_goals (try k_data)
    · refine Hold.mk ?_
      (with_reducible rename Fr g1 _ _ _ => F4)
      (with_reducible rename News g1 _ _ _ => N4)
      refine' assign_comp (p := fun v => decide (markV ss b (valN v) ≥ lastN ns)) (Fv := fun a b => b = a) (items := vs.toArray) (l := ln) ?j1 ?j2 ?j3 ?j4 ?j5 ?j6 ?j7 ?j8 ?j9 ?jz ?jh ?jl ?js ?jF ?jN ?jt ?je ?jd
      case j1 => exact rfl
      case j2 => exact rfl
      case j3 => decide +kernel
      case j4 => exact rfl
      case j5 => decide +kernel
      case j6 => exact rfl
      case j7 => exact rfl
      case j8 => exact rfl
      case j9 => exact fun _ => rfl
      case jh => exact rfl
      case jl => exact news_list N4 (.head _)
      case js =>
        rw [List.size_toArray, hvs.length, O.len, sizeLine_eq]
        have := O.top
        omega
      case jF => exact F4
      case jN => exact N4
      case jz =>
        k_steps
        all_goals (try k_data)
      case jt =>
        intro C v h6 tk6 u6 gs6 dr6 os6 E6 hv f1 f2 f3 f4 f5
        clear F4 N4
        obtain ⟨k, t, rfl⟩ := hvs.all v hv
        refine test_one ?_
        k_steps
        all_goals (try k_data)
        refine Hold.mk ?_
        have hkn : k ∈ ns := by
          obtain ⟨j, hj, ej⟩ := List.getElem_of_mem hv
          obtain ⟨n2, t2, e2, e3⟩ := hvs.at j _ (List.getElem?_eq_getElem hj)
          rw [ej] at e2
          cases e2
          exact List.mem_of_getElem? e3
        have hkb := O.all k hkn
        have hcap := O.cap
        k_dflt (refine' mark_c (ss := ss) (b := b) (k := k) ?kB ?kF ?kX ?kT ?kk ?kd ?ku ?kN ?km ?ki ?kl ?k1 ?k2 ?kr)
        case kB => k_asm
        case kF => exact f3
        case kX => k_asm
        case kT => k_asm
        case kk => exact rfl
        case kd => ktr_room
        case ku => ktr_units
        case kN => exact f4
        case km => exact .tail _ (.tail _ (.tail _ (.tail _ m1)))
        case ki => exact hms
        case kl => exact hsl
        case k1 => exact hkb.1
        case k2 => omega
        case kr =>
          intro t7 h7 tk7 F7 N7 I7
          have g7 := f1.keeps I7
          have n7 : News g1 C h7 _ := fun q hq => ⟨I7 _ _ (f2 q hq).1, (f2 q hq).2⟩
          clear f1 f2 f3 f4
          (try dsimp only)
          (try k_fold)
          k_steps
          all_goals (try k_data)
          (with_reducible rename News g1 C _ _ => N8)
          refine item_list_ints_neg (news_list N8 (.head _)) hvs (by omega) (by rw [O.len]; omega) (by omega) (fun t8 => ?_)
          rw [eidx]
          k_steps
          all_goals (try k_data)
          exact ⟨_, _, rfl, I7⟩
      case je =>
        intro C v h6 tk6 u6 gs6 dr6 os6 E6 hv _ f1 f2 f3 f4 f5
        clear F4 N4 f3 f4
        k_steps
        all_goals (try k_data)
        exact ⟨_, _, rfl, fun _ _ e => e⟩
      case jd =>
        intro D h6 tk6 ys k6 hp6 F6 N6 hn6
        clear F4 N4
        have ey : ys = (vs.filter fun v => decide (markV ss b (valN v) ≥ lastN ns)).toArray := by
          have := paired_self hp6
          rw [← Array.toArray_toList (xs := ys), this]
        subst ey
        have hft := ints_filter (q := fun k => decide (markV ss b k ≥ lastN ns)) hvs
        have hfp := fit_pos (b := b) hsl.1 (fun x hx => (hsb x hx).1) (ns := ns) (by rw [O.len]; omega) fun x hx => (O.all x hx).1
        (change News g1 L1 _ _ at N6)
        (change Fr g1 L1 _ _ at F6)
        have hDl : D ≠ ln := Ne.symm (hn6 _ (.head _))
        have hz : vs.toArray.size ≤ sizeLine := by
          rw [List.size_toArray, hvs.length, O.len, sizeLine_eq]
          have := O.top
          omega
        have N7 := news_swap N6
        have ho := cells3_off N7 hDl l1
        clear N6
        k_steps
        all_goals (try k_data)
        (with_reducible rename News g1 L1 _ _ => N8)
        refine item_list_ints_neg (news_list N8 (.head _)) hvs (by omega) (by rw [O.len]; omega) (by omega) (fun t8 => ?_)
        rw [eidx]
        k_steps
        all_goals (try k_data)
        (with_reducible rename News g1 L1 _ _ => N9)
        have hfp2 : 0 < (List.filter (fun k => decide (markV ss b k ≥ lastN ns)) ns).length := hfp
        refine item_list_ints (news_list N9 (.tail _ (.head _))) hft (by omega) (by omega) (by omega) (fun t9 => ?_)
        k_steps
        all_goals (try k_data)
        (with_reducible rename Fr g1 L1 _ _ => F10)
        (with_reducible rename News g1 L1 _ _ => N10)
        have O2 := numsOk_step (b := b) hsl.1 (fun x hx => (hsb x hx).1) O (by assumption)
        refine ⟨_, _, _, _, _, rfl, F10, news_drop2 N10, ?_, ?_, _, _, _, rfl, ints_conc hvs, ⟨i + 1, O2⟩, rfl⟩
        · have hf : 1 ≤ (fitN ss b ns).getD 0 0 := (O.all _ (List.mem_filter.mp (getD_mem hfp)).1).1
          have hs : lastN (stepN ss b ns) = lastN ns + (fitN ss b ns).getD 0 0 := by rw [stepN, lastN_snoc]
          have hl : lastN ns < 12 := by assumption
          show (12 - lastN (stepN ss b ns)).toNat < (12 - lastN ns).toNat
          omega
        · intro y hy
          ktn_open
    · (with_reducible rename Fr h₀ _ _ _ => F10)
      (with_reducible rename News h₀ _ _ _ => N10)
      refine hret ln vs nn _ _ F10 ?_ ?_ ?_
      · intro q hq
        rcases List.mem_cons.mp hq with rfl | hq
        · exact N10 _ (.head _)
        · exact N10 _ (.tail _ (.tail _ (.tail _ (.tail _ hq))))
      · exact lt_all l1.2.2.2
      · rw [O.run, numsT_done (ns := ns) (by assumption)]
        exact hvs
end
section
local macro_rules | `(tactic| ktr_enter) => `(tactic| first | (refine' code_def ?k1 ?k2 ?k3 ?k4 ?k5 ?kA ?kF ?kK ?k6 ?k7 ?k8 ?k9 ?kB ?_ ?c2 ?c3 ?c4 ?c5; (case kA => exact rfl); (case kF => exact rfl); (case kK => first | exact rfl | assumption); (case k1 => k_asm); (case k2 => k_asm); (case k3 => k_asm); (case k4 => k_asm); (case k5 => k_asm); (case k6 => k_is); (case k7 => k_is); (case k8 => ktr_room); (case k9 => first | exact BindsTo.of_eq rfl | exact binds_K (by k_in) rfl (by k_is) rfl rfl rfl); (case c5 => decide); (case kB => exact locs rfl); (case c2 => exact rfl); (case c3 => exact rfl); (case c4 => exact rfl); k_whole; intro g' L' h' FG' F' N' B' X' T'; (try dsimp only); (try k_lift B'); (try k_fold)) | (refine' code_defC ?k1 ?k2 ?k3 ?k4 ?k5 ?kA ?kF ?kK ?k6 ?k7 ?k8 ?k9 ?kB ?kD ?_ ?c2 ?c3 ?c4; (case kA => exact rfl); (case kF => exact rfl); (case kK => first | exact rfl | assumption); (case k1 => k_asm); (case k2 => k_asm); (case k3 => k_asm); (case k4 => k_asm); (case k5 => k_asm); (case k6 => k_is); (case k7 => k_is); (case k8 => ktr_room); (case k9 => first | exact BindsTo.of_eq rfl | exact binds_K (by k_in) rfl (by k_is) rfl rfl rfl); (case kB => exact rfl); (case kD => decide +kernel); (case c2 => exact rfl); (case c3 => exact rfl); (case c4 => exact rfl); k_whole; intro g' L' h' tk' cells' FG' F' N' Y' B' X' T' l1; (try k_lt l1); k_cells Y'; (try simp only [List.cons_append, List.nil_append] at N'); (try dsimp only); (try k_lift B'); (try k_fold)))
local macro_rules | `(tactic| walk_at "call builtin:str.lower") => `(tactic| (k_here; (with_reducible show wpAny _ _ (call (Value.builtin "str.lower") [Value.str _ _]) _ _ _); k_dflt (refine' lower_to ?k1 ?k2 ?_; (case k1 => assumption); (case k2 => first | exact Nat.le_of_ble_eq_true rfl | assumption); k_whole); intro t' k'))
local macro_rules | `(tactic| walk_at "getMethod ref") => `(tactic| (k_here; (with_reducible show wpAny _ _ (getMethod (Value.ref _) (PySem.Str.ofString "search") _) _ _ _); k_dflt (refine' search_meth ?k1 ?k2 ?_; (case k1 => k_in); (case k2 => first | exact Or.inl rfl | exact Or.inr rfl); k_whole)))
local macro_rules | `(tactic| walk_at "call builtin:re.Pattern.search") => `(tactic| (k_here; (with_reducible show wpAny _ _ (call (Value.builtin "re.Pattern.search") [Value.ref _, Value.str _ _]) _ _ _); k_dflt (refine' search_none ?k1 ?k2 ?k3 ?_; (case k1 => k_in); (case k2 => first | exact Or.inl rfl | exact Or.inr rfl); (case k3 => assumption); k_whole)))
local macro_rules | `(tactic| k_room) => `(tactic| ktr_room)
local macro_rules | `(tactic| ktn_open) => `(tactic| first | exact agree_base (by assumption) | (refine' agree_step ?q1 ?q2 ?q3; (case q1 => assumption); (case q2 => decide +kernel); (case q3 => ktn_open)) | (refine' agree_in ?q1 ?q2 ?q3; (case q1 => assumption); (case q2 => decide +kernel); (case q3 => ktn_open)) | (dsimp only; ktn_open))
local macro_rules | `(tactic| k_mem) => `(tactic| (refine mem_of ?_; ktr_member))
local macro_rules | `(tactic| k_all) => `(tactic| first | assumption | (refine' off_rest ?q1 ?q2; (case q1 => first | assumption | exact restLt_of (by assumption)); (case q2 => (try dsimp only); omega)))
local macro_rules | `(tactic| walk_at "eval ListComp") => `(tactic| (k_here; refine Hold.out ?_))
local macro_rules | `(tactic| walk_at "call ref") => `(tactic| (k_here; (with_reducible show wpAny _ _ (call (Value.ref 110) [Value.ref _, Value.str _ _]) _ _ _); k_dflt (refine' del_c ?k1 ?k2 ?k3 ?k4 ?k5 ?k6 ?k7 ?k8 ?k9 ?k10 ?k11 ?k12 ?k13 ?_; (case k1 => k_asm); (case k2 => k_asm); (case k3 => k_asm); (case k4 => k_asm); (case k5 => first | exact rfl | assumption); (case k8 => k_asm); (case k9 => k_asm); (case k10 => k_asm); (case k11 => k_asm); (case k12 => k_asm); (case k13 => k_asm); (case k6 => ktr_room); (case k7 => ktr_units)); intro v' nn' h' tk' F' N'; (try k_sweep)))
local macro_rules | `(tactic| walk_at "delItem ref") => `(tactic| (k_here; (with_reducible show wpAny _ _ (delItem (Value.ref _) _) _ _ _); k_dflt (refine' delItem_own ?F ?X ?I ?hQ ?hS ?hF ?_; (case F => k_asm); (case X => k_asm); (case I => k_inst); (case hS => k_is); (case hF => k_is); (case hQ => k_is); k_whole)))
local macro_rules | `(tactic| walk_at "call builtin:list.append") => `(tactic| (k_here; (with_reducible show wpAny _ _ (call (Value.builtin _) [Value.ref _, _]) _ _ _); k_dflt (refine' append_K ?k1 ?k2 ?k3 ?_ ?z; (case k1 => k_asm); (case k2 => k_asm); (case k3 => k_upd); (case z => assumption); k_whole); intro h' F' N'; (try k_sweep)))
local macro_rules | `(tactic| walk_at "exec For Name Call cons nil") => `(tactic| (k_here; refine Hold.out ?_))
local macro_rules | `(tactic| walk_at "exec For Tuple Name cons nil") => `(tactic| (k_here; refine Hold.out ?_))
local macro_rules | `(tactic| walk_at "exec For Tuple Attribute cons nil") => `(tactic| (k_here; refine Hold.out ?_))
local macro_rules | `(tactic| walk_at "exec While UnaryOp cons nil") => `(tactic| (k_here; refine Hold.out ?_))
local macro_rules | `(tactic| walk_at "exec While Compare cons nil") => `(tactic| (k_here; refine Hold.out ?_))
local macro_rules | `(tactic| walk_at "pyIter ref") => `(tactic| (k_here; (with_reducible show wpAny _ _ (pyIter (Value.ref _)) (fun it s₂ => LoopAtV _ _ _ _ _ _ _ _ _ it s₂) _ _); refine Hold.out ?_))
theorem off_PB : True := by
  w_top off
  trivial
local macro_rules | `(tactic| walk_at "compareOp NotIn int ref") => `(tactic| (k_here; refine Hold.out ?_))
-- _law_least_part
def maxN (l : List Int) : Int := l.foldl max 0
def leastT (ns : List Int) : Nat → Int → Int
  | 0, k => k
  | f + 1, k => if k ∈ ns then k else leastT ns f (k - maxN (ns.filter fun n => decide (n < k)))
theorem code_defCG {prog : Program} {w : World} {A₀ A : Around} {s : Shared} {K : Frag} {p : Program} {loose : List Str} {mean : ExcName → Option Value} {mg mb : Str → Option Value} {base h₀ : Heap} {L : Addr} {m : Str → Option Value} {news : List (Addr × Obj)} {env : Env} {outer : List Env} {R : Result → Shared → Prop} {name qual : Str} {params : Arguments} {body : List Stmt} {scope : Scope} {dV kV doc pm cdv ct oc : Value} {an od : Option Addr} {osl : Array (Option Value)} {f : Addr} {args : Args} {binds : List (Str × Value)}
    (B : Below A₀ base outer h₀) (F : Fr h₀ L s.heap m) (X₀ : K.In h₀) (N : News h₀ L s.heap news) (T : Top p loose mean mg mb h₀) (hA : A.frames = some (env :: outer)) (hf : env.frame = some L) (hke : env.scope.kind = .function)
    (ho : K.lookup f = some ⟨oc, od, .func (fnOf name qual params body scope dV kV doc pm an cdv ct), osl⟩) (hcd : codeIn K cdv qual = true) (hroom : A.depth < recursionLimit)
    (hbind : BindsTo s (fnOf name qual params body scope dV kV doc pm an cdv ct) args binds) (hkind : (binds.all fun y => scope.names.lookup y.1 == some .local || scope.names.lookup y.1 == some .cell) = true)
    (hnd : ((cellsFrom 0 scope.names []).map (·.1)).Nodup)
    (h : ∀ g L' h₁ tk cells, Fr h₀ L g m → Fr g L' h₁ (bindL (envOfC qual scope L' f cdv).kindOf binds fun _ => none) → News g L' h₁ (cells ++ news) →
      CellsAre (bindC (envOfC qual scope L' f cdv).kindOf binds fun _ => none) (cellsFrom (L' + 1) scope.names []) cells → Below A base (env :: outer) g → K.In g → Top p loose mean mg mb g → (∀ p ∈ news, p.1 < L') → GSub s.heap g (news.map (·.1)) →
      wpAny (model prog w) (A.deeper (envOfC qual scope L' f cdv)) (execs body (envOfC qual scope L' f cdv))
        (fun fl s' => LeaveK h₀ L m g R (match fl with | .ret v => v | _ => .none) s')
        (fun e s' => wpAny (model prog w) (A.deeper (envOfC qual scope L' f cdv)) (leaving (envOfC qual scope L' f cdv) e) (fun _ s'' => R (.error e) s'') (fun e' s'' => R (.error e') s'') s')
        { s with heap := h₁, toks := tk })
    (hco : scope.isCoroutine = false) (hgen : scope.isGenerator = false) (hk : scope.kind = .function) : codeAny (model prog w) A (.call (.ref f) args) R s := by
  obtain ⟨FG, BG, st, lv⟩ := groundX (R := R) B F N hA hf hke
  refine codeAny_call_function hroom ((X₀.keeps F.keep) _ _ ho) rfl hco hgen rfl (codeRec_of (X₀.keeps F.keep) hcd) (hbind _ _ _ _ ?_)
  refine wpAny_newFunctionEnv_cells hk (kindsX hkind _) fun env' he s' x => ?_
  subst he
  obtain ⟨h₁, tk, rfl, _⟩ := x.done
  have up := x.toInCall.keep
  refine ⟨(T.nolimit.keeps F.keep).keeps up, codeAny_func ?_⟩
  obtain ⟨cells, NC, Y⟩ := Cl.news (h₀ := s.heap) (Nat.le_refl _) fun n c hm => ⟨x.cell n c (lookup_of_mem_nodup (cellsFrom_names scope.names 0 (s.heap.objs.size + 1) [] [] rfl ▸ hnd) hm), x.above n c hm⟩
  have N2 : News (hideAll s.heap (news.map (·.1))) s.heap.objs.size h₁ (cells ++ news) := by
    intro p hp
    rcases List.mem_append.mp hp with hp | hp
    · have a := NC p hp
      refine ⟨a.1, a.2.1, ?_⟩
      cases q : (hideAll s.heap (news.map (·.1))).get? p.1 with
      | none => rfl
      | some o => rw [of_hideAll _ q] at a; cases a.2.2
    · exact ⟨up _ _ (N p hp).1, Nat.ne_of_lt (Heap.lt_size (N p hp).1), hideAll_none _ (List.mem_map_of_mem hp)⟩
  exact wpAny_mono (h _ s.heap.objs.size h₁ tk cells FG ⟨x.toInCall.ns, fun b o e => up b o (of_hideAll _ e), Nat.le_of_eq (hideAll_size _ _)⟩ N2 Y BG (X₀.keeps st) (T.keeps st) (fun p hp => Heap.lt_size (N p hp).1) fun b o e n => hideAll_get _ e n)
    (fun fl s' hl => lv _ _ hl) fun _ _ y => y
theorem any_vals (k : Int) {vs : List Value} {ns : List Int} (h : IntsAre vs ns) : (vs.any fun y => valN y == k) = decide (k ∈ ns) := by
  induction h with
  | nil => rfl
  | cons n t _ ih =>
    rw [List.any_cons, ih]
    by_cases e : n = k
    · subst e; simp [valN]
    · have : ¬ k = n := fun q => e q.symm
      simp [valN, e, this]
theorem notIn_ints {prog : Program} {w : World} {A : Around} {s : Shared} {E Q : Value → Shared → Prop} {l : Addr} {vs : List Value} {ns : List Int} {k : Int} {t : Tok} (hl : s.heap.IsList l vs.toArray) (hi : IntsAre vs ns)
    (h : Q (.bool (!decide (k ∈ ns))) s) : wpAny (model prog w) A (compareOp .NotIn (.int k t) (.ref l)) Q E s := by
  refine PySem.SeqInW.notIn_listW (fun y => valN y == k) (fun y hy => ?_) hl ?_
  · obtain ⟨a, u, rfl⟩ := hi.all y (by simpa using hy)
    exact PySem.MeetsSeq.EqGives.int a k u t
  · rw [← Array.any_toList, any_vals k hi]; exact h
theorem while_cell {prog : Program} {w : World} {A : Around} {E : Value → Shared → Prop} {Q : Flow → Shared → Prop} {s : Shared} {env : Env} {h₀ : Heap} {L : Addr} (Pi : Int → Prop) (mu : Int → Nat) {c : Addr} {oc₀ : Obj} {rest : List (Addr × Obj)} {test : Expr} {body : List Stmt} {pos : Pos} {m₀ : Str → Option Value} {k₀ : Int} {t₀ : Tok}
    (F : Fr h₀ L s.heap m₀) (N : News h₀ L s.heap ((c, oc₀) :: rest)) (hd : oc₀.data = .cell (some (.int k₀ t₀))) (hp : Pi k₀)
    (turn : ∀ k t oc h₁ tk₁, oc.data = .cell (some (.int k t)) → Pi k → Fr h₀ L h₁ m₀ → News h₀ L h₁ ((c, oc) :: rest) →
      wpAny (model prog w) A (isTrue test env (eval test env)) (fun b s₂ =>
        if b = true then wpAny (model prog w) A (execs body env) (WhileStep2 h₀ L s (fun n m₂ n₂ => m₂ = m₀ ∧ ∃ oc k t, n₂ = (c, oc) :: rest ∧ oc.data = .cell (some (.int k t)) ∧ Pi k ∧ n = mu k) Q (mu k)) E s₂ else Q .next s₂) E { s with heap := h₁, toks := tk₁ })
    (hE : PassesOwn (model prog w) A env E := by passes_own) :
    wpAny (model prog w) A (exec (.While test body [] pos) env) Q E s := by
  refine While_inv2 (fun n m₂ n₂ => m₂ = m₀ ∧ ∃ oc k t, n₂ = (c, oc) :: rest ∧ oc.data = .cell (some (.int k t)) ∧ Pi k ∧ n = mu k) F N (n₀ := mu k₀) ⟨rfl, _, _, _, rfl, hd, hp, rfl⟩ ?_ hE
  rintro n m₁ news₁ h₁ tk₁ F₁ N₁ ⟨rfl, oc, k, t, rfl, ho, hk, rfl⟩
  exact turn k t oc h₁ tk₁ ho hk F₁ N₁
theorem foldl_max_ge : ∀ (l : List Int) (z : Int), z ≤ l.foldl max z ∧ ∀ a ∈ l, a ≤ l.foldl max z
  | [], z => ⟨Int.le_refl z, fun _ h => nomatch h⟩
  | x :: l, z => by
    have ih := foldl_max_ge l (max z x)
    rw [List.foldl_cons]
    refine ⟨by omega, fun a ha => ?_⟩
    rcases List.mem_cons.mp ha with rfl | ha
    · omega
    · exact ih.2 a ha
theorem foldl_max_le {M : Int} : ∀ (l : List Int) (z : Int), z ≤ M → (∀ a ∈ l, a ≤ M) → l.foldl max z ≤ M
  | [], _, hz, _ => hz
  | x :: l, z, hz, h => by
    rw [List.foldl_cons]
    have := h x (.head _)
    exact foldl_max_le l (max z x) (by omega) fun a ha => h a (.tail _ ha)
theorem maxN_eq {l : List Int} {M : Int} (h0 : 0 ≤ M) (hm : M ∈ l) (h : ∀ a, a ∈ l → a ≤ M) : maxN l = M :=
  Int.le_antisymm (foldl_max_le l 0 h0 h) ((foldl_max_ge l 0).2 M hm)
theorem least_done {ns : List Int} {j : Int} (h : j ∈ ns) : ∀ f, leastT ns f j = j
  | 0 => rfl
  | f + 1 => by rw [leastT, if_pos h]
structure LeastOk (ns : List Int) (k j : Int) : Prop where
  run : ∃ f, leastT ns 12 k = leastT ns f j ∧ j ≤ (f : Int)
  low : 1 ≤ j
  top : j ≤ 12
theorem least_fit {ns : List Int} {k j : Int} (h1 : 1 ∈ ns) (O : LeastOk ns k j) (hj : ¬ j ∈ ns) : 1 ∈ ns.filter fun n => decide (n < j) := by
  have : j ≠ 1 := fun e => hj (e ▸ h1)
  have := O.low
  exact List.mem_filter.mpr ⟨h1, by simp; omega⟩
theorem least_step {ns : List Int} {k j M : Int} (h1 : 1 ∈ ns) (O : LeastOk ns k j) (hj : ¬ j ∈ ns) (hm : M ∈ ns.filter fun n => decide (n < j)) (h : ∀ a, a ∈ (ns.filter fun n => decide (n < j)) → a ≤ M) : LeastOk ns k (j - M) ∧ (j - M).toNat < j.toNat := by
  have hM := h 1 (least_fit h1 O hj)
  have hM2 : M < j := by simpa using (List.mem_filter.mp hm).2
  obtain ⟨⟨f, e, hf⟩, h2, h3⟩ := O
  obtain ⟨f', rfl⟩ : ∃ f', f = f' + 1 := ⟨f - 1, by omega⟩
  refine ⟨⟨⟨f', ?_, by omega⟩, by omega, by omega⟩, by omega⟩
  rw [e, leastT, if_neg hj, maxN_eq (by omega) hm h]
theorem least_c {w : World} {mean : ExcName → Option Value} {mg mb : Str → Option Value} {dp un : Nat} {gd : Option (List Code)} {cn : Str} {cs : Scope} {a : Addr} {ccd : Value} {cl : List (Str × Addr)} {outer : List Env} {A₀ : Around} {base h₀ : Heap} {L : Addr} {m : Str → Option Value} {s : Shared}
    {Q E : Value → Shared → Prop} (B : Below A₀ base outer h₀) (F : Fr h₀ L s.heap m) (X : (hd.heap_39 w.params).In h₀) (T : Top hd.view_39 LS mean mg mb h₀) (hk : cs.kind = .function) (hdd : dp + 5 < recursionLimit) (hu : un + 40 < cLine)
    {news : List (Addr × Obj)} {nm : Addr} {nn : Nat} {nvs : List Value} {ns : List Int} {k : Int} {t1 : Tok}
    (N : News h₀ L s.heap news) (m1 : (nm, listOf nvs.toArray nn) ∈ news) (hms : IntsAre nvs ns) (hsl : ns.length ≤ 13) (h1 : 1 ∈ ns) (hk0 : 1 ≤ k) (hk1 : k ≤ 12)
    (hret : ∀ t h' tk', Fr h₀ L h' m → News h₀ L h' news → InElt s.heap h' → Q (.int (leastT ns 12 k) t) { s with heap := h', toks := tk' }) :
    wpAny (model PySem.Challenge.rw_we0022_01.row.prog w) (ktrTop dp un gd cn cs L a ccd cl outer) (call (.ref 225) [.int k t1, .ref nm]) Q E s := by
  revert X; k_fill; intro X
  refine wpAny_call ?_
  k_dflt (refine' code_defCG ?k1 ?k2 ?k3 ?k4 ?k5 ?kA ?kF ?kK ?k6 ?k7 ?k8 ?k9 ?kB ?kD ?kh ?c2 ?c3 ?c4)
  case kA => exact rfl
  case kF => exact rfl
  case kK => first | exact rfl | assumption
  case k1 => k_asm
  case k2 => k_asm
  case k3 => k_asm
  case k4 => k_asm
  case k5 => k_asm
  case k6 => k_is
  case k7 => k_is
  case k8 => ktr_room
  case k9 => exact BindsTo.of_eq rfl
  case kB => exact rfl
  case kD => decide +kernel
  case c2 => exact rfl
  case c3 => exact rfl
  case c4 => exact rfl
  case kh =>
    intro g' L' h' tk' cells' FG' F' N' Y' B' X' T' l1 GS
    (try k_lt l1)
    k_cells Y'
    (try simp only [List.cons_append, List.nil_append] at N')
    (try dsimp only)
    (try k_lift B')
    (try k_fold)
    k_steps
    all_goals (try k_data)
    refine Hold.mk ?_
    (with_reducible rename Fr g' _ _ _ => F1)
    (with_reducible rename News g' _ _ _ => N1)
    refine' while_cell (fun j => LeastOk ns k j) (fun j => j.toNat) ?FF ?NN ?hx ?hp ?turn
    case FF => exact F1
    case NN => exact N1
    case hx => assumption
    case hp => exact ⟨⟨12, rfl, hk1⟩, hk0, hk1⟩
    case turn =>
      intro j t2 oc h2 tk2 hoc O F2 N2
      clear F1 N1
      k_steps
      all_goals (try k_data)
      refine Hold.mk ?_
      refine notIn_ints (news_list N2 (.tail _ m1)) hms ?_
      by_cases hj : j ∈ ns
      · rw [decide_eq_true hj, Bool.not_true]
        k_steps
        all_goals (try k_data)
        (with_reducible rename Fr h₀ _ _ _ => F9)
        (with_reducible rename News h₀ _ _ _ => N9)
        (with_reducible rename Fr g' _ _ _ => F8)
        (with_reducible rename News g' _ _ _ => N8)
        obtain ⟨f, ef, _⟩ := O.run
        have e : leastT ns 12 k = j := by rw [ef, least_done hj]
        rw [← e]
        exact hret _ _ _ F9 (N9.perm fun p hp => .tail _ hp) (elt_after (InElt.start _) GS N F8 N8 fun p hp => .tail _ hp)
      · rw [decide_eq_false hj, Bool.not_false]
        k_steps
        all_goals (try k_data)
        refine Hold.mk ?_
        refine comp_rule (p := fun v => decide (valN v < j)) (Fv := fun a b => b = a) rfl (by decide +kernel) rfl (by decide +kernel) rfl (fun _ => rfl) ?_
        k_steps
        all_goals (try k_data)
        (with_reducible rename Fr g' _ _ _ => F4)
        (with_reducible rename News g' _ _ _ => N4)
        refine' comp_list (items := nvs.toArray) _ _ ?jh ?jl ?js ?jF ?jN ?jt ?je ?jd
        case jh => exact rfl
        case jl => exact news_list N4 (.tail _ m1)
        case js =>
          rw [List.size_toArray, hms.length, sizeLine_eq]
          omega
        case jF => exact F4
        case jN => exact N4
        case jt =>
          intro C v h6 tk6 u6 gs6 dr6 os6 E6 hv f1 f2 f3 f4 f5
          clear F4 N4
          obtain ⟨n, t, rfl⟩ := hms.all v hv
          refine test_one ?_
          k_steps
          all_goals (try k_data)
          exact ⟨_, _, rfl, fun _ _ e => e⟩
        case je =>
          intro C v h6 tk6 u6 gs6 dr6 os6 E6 hv _ f1 f2 f3 f4 f5
          clear F4 N4 f3 f4
          k_steps
          all_goals (try k_data)
          exact ⟨_, _, rfl, fun _ _ e => e⟩
        case jd =>
          intro D h6 tk6 ys k6 hp6 F6 N6 hn6
          clear F4 N4
          (change Fr g' L' _ _ at F6)
          (change News g' L' _ _ at N6)
          have ey : ys = (nvs.filter fun v => decide (valN v < j)).toArray := by
            have := paired_self hp6
            rw [← Array.toArray_toList (xs := ys), this]
          subst ey
          have hft := ints_filter (q := fun n => decide (n < j)) hms
          have hfm := least_fit h1 O hj
          k_steps
          all_goals (try k_data)
          (with_reducible rename Fr g' L' _ _ => F7)
          (with_reducible rename News g' L' _ _ => N7)
          refine max_list_N rfl F7 N7 (news_list N7 (.head _)) hft (List.length_pos_of_mem hfm) fun h7 M t7 tk7 F8 N8 hm ha => ?_
          clear F7 N7
          have O2 := least_step h1 O hj hm ha
          have N9 : News g' L' h7 ((L' + 1, oc) :: news) := fun q hq => N8 q (.tail _ hq)
          clear N8
          k_steps
          all_goals (try k_data)
          (rename Obj.data _ = Data.cell (some (Value.int (j - M) _)) => hc2)
          (with_reducible rename Fr g' L' _ _ => F10)
          (with_reducible rename News g' L' _ _ => N10)
          refine ⟨_, _, _, _, _, rfl, F10, N10, O2.2, rfl, _, _, _, rfl, hc2, O2.1, rfl⟩
end
section
local macro_rules | `(tactic| ktr_enter) => `(tactic| first | (refine' code_def ?k1 ?k2 ?k3 ?k4 ?k5 ?kA ?kF ?kK ?k6 ?k7 ?k8 ?k9 ?kB ?_ ?c2 ?c3 ?c4 ?c5; (case kA => exact rfl); (case kF => exact rfl); (case kK => first | exact rfl | assumption); (case k1 => k_asm); (case k2 => k_asm); (case k3 => k_asm); (case k4 => k_asm); (case k5 => k_asm); (case k6 => k_is); (case k7 => k_is); (case k8 => ktr_room); (case k9 => first | exact BindsTo.of_eq rfl | exact binds_K (by k_in) rfl (by k_is) rfl rfl rfl); (case c5 => decide); (case kB => exact locs rfl); (case c2 => exact rfl); (case c3 => exact rfl); (case c4 => exact rfl); k_whole; intro g' L' h' FG' F' N' B' X' T'; (try dsimp only); (try k_lift B'); (try k_fold)) | (refine' code_defC ?k1 ?k2 ?k3 ?k4 ?k5 ?kA ?kF ?kK ?k6 ?k7 ?k8 ?k9 ?kB ?kD ?_ ?c2 ?c3 ?c4; (case kA => exact rfl); (case kF => exact rfl); (case kK => first | exact rfl | assumption); (case k1 => k_asm); (case k2 => k_asm); (case k3 => k_asm); (case k4 => k_asm); (case k5 => k_asm); (case k6 => k_is); (case k7 => k_is); (case k8 => ktr_room); (case k9 => first | exact BindsTo.of_eq rfl | exact binds_K (by k_in) rfl (by k_is) rfl rfl rfl); (case kB => exact rfl); (case kD => decide +kernel); (case c2 => exact rfl); (case c3 => exact rfl); (case c4 => exact rfl); k_whole; intro g' L' h' tk' cells' FG' F' N' Y' B' X' T' l1; (try k_lt l1); k_cells Y'; (try simp only [List.cons_append, List.nil_append] at N'); (try dsimp only); (try k_lift B'); (try k_fold)))
local macro_rules | `(tactic| walk_at "call builtin:str.lower") => `(tactic| (k_here; (with_reducible show wpAny _ _ (call (Value.builtin "str.lower") [Value.str _ _]) _ _ _); k_dflt (refine' lower_to ?k1 ?k2 ?_; (case k1 => assumption); (case k2 => first | exact Nat.le_of_ble_eq_true rfl | assumption); k_whole); intro t' k'))
local macro_rules | `(tactic| walk_at "getMethod ref") => `(tactic| (k_here; (with_reducible show wpAny _ _ (getMethod (Value.ref _) (PySem.Str.ofString "search") _) _ _ _); k_dflt (refine' search_meth ?k1 ?k2 ?_; (case k1 => k_in); (case k2 => first | exact Or.inl rfl | exact Or.inr rfl); k_whole)))
local macro_rules | `(tactic| walk_at "call builtin:re.Pattern.search") => `(tactic| (k_here; (with_reducible show wpAny _ _ (call (Value.builtin "re.Pattern.search") [Value.ref _, Value.str _ _]) _ _ _); k_dflt (refine' search_none ?k1 ?k2 ?k3 ?_; (case k1 => k_in); (case k2 => first | exact Or.inl rfl | exact Or.inr rfl); (case k3 => assumption); k_whole)))
local macro_rules | `(tactic| k_room) => `(tactic| ktr_room)
local macro_rules | `(tactic| ktn_open) => `(tactic| first | exact agree_base (by assumption) | (refine' agree_step ?q1 ?q2 ?q3; (case q1 => assumption); (case q2 => decide +kernel); (case q3 => ktn_open)) | (refine' agree_in ?q1 ?q2 ?q3; (case q1 => assumption); (case q2 => decide +kernel); (case q3 => ktn_open)) | (dsimp only; ktn_open))
local macro_rules | `(tactic| k_mem) => `(tactic| (refine mem_of ?_; ktr_member))
local macro_rules | `(tactic| k_all) => `(tactic| first | assumption | (refine' off_rest ?q1 ?q2; (case q1 => first | assumption | exact restLt_of (by assumption)); (case q2 => (try dsimp only); omega)))
local macro_rules | `(tactic| walk_at "eval ListComp") => `(tactic| (k_here; refine Hold.out ?_))
local macro_rules | `(tactic| walk_at "call ref") => `(tactic| (k_here; (with_reducible show wpAny _ _ (call (Value.ref 110) [Value.ref _, Value.str _ _]) _ _ _); k_dflt (refine' del_c ?k1 ?k2 ?k3 ?k4 ?k5 ?k6 ?k7 ?k8 ?k9 ?k10 ?k11 ?k12 ?k13 ?_; (case k1 => k_asm); (case k2 => k_asm); (case k3 => k_asm); (case k4 => k_asm); (case k5 => first | exact rfl | assumption); (case k8 => k_asm); (case k9 => k_asm); (case k10 => k_asm); (case k11 => k_asm); (case k12 => k_asm); (case k13 => k_asm); (case k6 => ktr_room); (case k7 => ktr_units)); intro v' nn' h' tk' F' N'; (try k_sweep)))
local macro_rules | `(tactic| walk_at "delItem ref") => `(tactic| (k_here; (with_reducible show wpAny _ _ (delItem (Value.ref _) _) _ _ _); k_dflt (refine' delItem_own ?F ?X ?I ?hQ ?hS ?hF ?_; (case F => k_asm); (case X => k_asm); (case I => k_inst); (case hS => k_is); (case hF => k_is); (case hQ => k_is); k_whole)))
local macro_rules | `(tactic| walk_at "call builtin:list.append") => `(tactic| (k_here; (with_reducible show wpAny _ _ (call (Value.builtin _) [Value.ref _, _]) _ _ _); k_dflt (refine' append_K ?k1 ?k2 ?k3 ?_ ?z; (case k1 => k_asm); (case k2 => k_asm); (case k3 => k_upd); (case z => assumption); k_whole); intro h' F' N'; (try k_sweep)))
local macro_rules | `(tactic| walk_at "exec For Name Call cons nil") => `(tactic| (k_here; refine Hold.out ?_))
local macro_rules | `(tactic| walk_at "exec For Tuple Name cons nil") => `(tactic| (k_here; refine Hold.out ?_))
local macro_rules | `(tactic| walk_at "exec For Tuple Attribute cons nil") => `(tactic| (k_here; refine Hold.out ?_))
local macro_rules | `(tactic| walk_at "exec While UnaryOp cons nil") => `(tactic| (k_here; refine Hold.out ?_))
local macro_rules | `(tactic| walk_at "exec While Compare cons nil") => `(tactic| (k_here; refine Hold.out ?_))
local macro_rules | `(tactic| walk_at "pyIter ref") => `(tactic| (k_here; (with_reducible show wpAny _ _ (pyIter (Value.ref _)) (fun it s₂ => LoopAtV _ _ _ _ _ _ _ _ _ it s₂) _ _); refine Hold.out ?_))
theorem off_PC : True := by
  w_top off
  trivial
structure IntEnd (r : Int) (s : Shared) (y : Value) (s' : Shared) : Prop where
  val : ∃ t', y = .int r t'
  keep : Keeps s s'
-- comprehensions whose turns are told by the ledger
open LCg in
theorem rest_ints {prog : Program} {w : World} {A : Around} {h₀ : Heap} {L : Addr} {m : Str → Option Value} {env : Env} {elt : Expr} {x : Str} {scope : Scope} {cl : List (Str × Addr)} {s : Shared} {S : List (Addr × Obj) → Prop} {P : Nat → Value → Prop} {Fin : List Value → List (Addr × Obj) → Prop} {news : List (Addr × Obj)} {vs : List Value} {ns : List Int} {n : Nat} (f : Int → Int)
    (hi : IntsAre vs ns) (hS : S news) (hn : n = ns.length) (hP : ∀ i v, P i v → vs[i]? = some v)
    (turn : ∀ (k : Int) (t : Tok) I oI C oC D ys m₂ h tk (E' : Value → Shared → Prop), NsObj oC m₂ → m₂ x = some (.int k t) → Fr h₀ L h m → News h₀ L h ((I, oI) :: (C, oC) :: (D, lst ys) :: news) →
      wpAny (model prog w) A (eval elt (compEnvC scope cl C env)) (fun y s' => IntEnd (f k) { s with heap := h, toks := tk } y s') E' { s with heap := h, toks := tk })
    (fin : ∀ ys, IntsAre ys (ns.map f) → Fin ys news) : CompRest prog w A h₀ L m env elt x scope cl s S P Fin n 0 [] news := by
  have go : ∀ k i ys, i + k = ns.length → IntsAre ys ((ns.take i).map f) → CompRest prog w A h₀ L m env elt x scope cl s S P Fin k i ys news := by
    intro k
    induction k with
    | zero =>
      intro i ys hik hys
      have e : ns.take i = ns := List.take_of_length_le (by omega)
      rw [e] at hys
      exact CompRest.zero (fin ys hys)
    | succ k ih =>
      intro i ys hik hys
      refine CompRest.succ fun v I oI C oC D m₂ h tk E' hv hC hx F N off _ => ?_
      obtain ⟨a, t, rfl, ha⟩ := hi.at i v (hP i v hv)
      refine wpAny_mono (turn a t I oI C oC D ys m₂ h tk E' hC hx F N) (fun y s' hy => ?_) fun _ _ e => e
      obtain ⟨⟨t', rfl⟩, h', tk', rfl, hk⟩ := hy
      refine CompEnd.intro (F.keeps hk) (N.grown hk) news (fun p hp => hp) off hS (ih (i + 1) _ (by omega) ?_)
      have e : ns.take (i + 1) = ns.take i ++ [a] := by
        rw [List.take_add_one, ha]; rfl
      rw [e, List.map_append]
      exact hys.append (IntsAre.cons _ _ IntsAre.nil)
  exact go n 0 [] (by omega) IntsAre.nil
theorem arr_get {vs : List Value} : ∀ (i : Nat) (v : Value), vs.toArray[i]? = some v → vs[i]? = some v := fun i v h => by simpa using h
-- a slice of a list display
theorem slice_temp {prog : Program} {w : World} {A : Around} {E : Value → Shared → Prop} {s : Shared} {h₀ : Heap} {L : Addr} {m : Str → Option Value} {news : List (Addr × Obj)} {value slice : Expr} {l : Addr} {items : Array Value} {vl vu : Value} {lo hi : Option Int} {Q : Value → Shared → Prop}
    (F : Fr h₀ L s.heap m) (N : News h₀ L s.heap news) (hl : s.heap.IsList l items) (pl : IsPart vl lo) (pu : IsPart vu hi)
    (h : ∀ D h', Fr h₀ L h' m → News h₀ L h' ((D, listOf (slicePick items lo hi none) 0) :: news) → (∀ p ∈ news, p.1 < D) → Q (.ref D) { s with heap := h' })
    (hs : subscripted slice false (.ref l) (.ref s.heap.objs.size) = operate [.ref s.heap.objs.size, .ref l] (getItem (.ref l) (.ref s.heap.objs.size)))
    (hsz : items.size ≤ sizeLine) :
    wpAny (model prog w) A (subscriptTail value slice (.ref l) (.ref s.heap.objs.size)) Q E { s with heap := s.heap.push { cls := .type "slice", data := .fields #[vl, vu, .none] } } := by
  have hT : ({ s with heap := s.heap.push { cls := .type "slice", data := .fields #[vl, vu, .none] } } : Shared).TypeIs (.ref l) "list" := Heap.IsList.typeIs (s := { s with heap := s.heap.push { cls := .type "slice", data := .fields #[vl, vu, .none] } }) (hl.push _)
  have N1 := News.push (F.push { cls := .type "slice", data := .fields #[vl, vu, .none] }) (N.grown fun _ _ e => Heap.get?_push_of_some _ e) { cls := .type "list", data := .seq (slicePick items lo hi none) }
  rw [Heap.size_push] at N1
  unfold subscriptTail
  refine wpAny_bind ?_
  rw [getitemInPython_of_ne hT.not_modules]
  refine wpAny_bind (wpAny_specialOf hT list_getitem_lookup ?_)
  have fin : wpAny (model prog w) A (subscripted slice false (.ref l) (.ref s.heap.objs.size)) (fun r s₃ => wpAny (model prog w) A (letTemporaryGo value (.ref l) r >>= fun _ => pure r) Q E s₃) E { s with heap := s.heap.push { cls := .type "slice", data := .fields #[vl, vu, .none] } } := by
    rw [hs]
    refine wpAny_operating (wpAny_mono (wpAny_getItem_list_slice (hl.push _) (Heap.IsSliceOf.new ..) pl pu .none (by simp) (Q := Q) ?_ hsz) (fun r s₃ h₃ => wpAny_bind (wpAny_letTemporaryGo (wpAny_pure h₃))) fun _ _ x => x)
    show Q (.ref (s.heap.push _).objs.size) _
    rw [Heap.size_push]
    exact h _ _ ((F.push _).push _) N1 fun p hp => Nat.lt_succ_of_lt (Heap.lt_size (N p hp).1)
  first
    | exact wpAny_pure (wpAny_bind fin)
    | exact wpAny_bind (wpAny_pure (wpAny_bind fin))
    | exact wpAny_bind fin
theorem tail5 {t1 t2 t3 t4 t5 : Tok} (n : Nat) : IntsAre (List.drop n (#[Value.int 1 t1, Value.int 1 t2, Value.int 2 t3, Value.int 0 t4, Value.int 3 t5] : Array Value).toList) (List.drop n [1, 1, 2, 0, 3]) :=
  IntsAre.drop (.cons _ _ (.cons _ _ (.cons _ _ (.cons _ _ (.cons _ _ .nil))))) n
theorem cells_five {dr : List Int} (h : dr.length ≤ 5) (hp : ∀ x ∈ dr, 0 ≤ x) : ∃ c0 c1 c2 c3 c4, dr ++ List.drop dr.length [1, 1, 2, 0, 3] = [c0, c1, c2, c3, c4] ∧ (0 ≤ c0 ∧ 0 ≤ c1 ∧ 0 ≤ c2 ∧ 0 ≤ c3 ∧ 0 ≤ c4) := by
  match dr, h, hp with
  | [], _, hp => exact ⟨_, _, _, _, _, rfl, by decide⟩
  | [a], _, hp => exact ⟨_, _, _, _, _, rfl, hp a (by simp), by decide⟩
  | [a, b], _, hp => exact ⟨_, _, _, _, _, rfl, hp a (by simp), hp b (by simp), by decide⟩
  | [a, b, c], _, hp => exact ⟨_, _, _, _, _, rfl, hp a (by simp), hp b (by simp), hp c (by simp), by decide⟩
  | [a, b, c, d], _, hp => exact ⟨_, _, _, _, _, rfl, hp a (by simp), hp b (by simp), hp c (by simp), hp d (by simp), by decide⟩
  | [a, b, c, d, e], _, hp => exact ⟨_, _, _, _, _, rfl, hp a (by simp), hp b (by simp), hp c (by simp), hp d (by simp), hp e (by simp)⟩
  | _ :: _ :: _ :: _ :: _ :: _ :: _, h, _ => simp at h
theorem pick_five {us : List Value} {cs : List Int} {x : Int} (hi : IntsAre us cs) (hx : 0 ≤ x ∧ x ≤ 3) (hl : cs.length = 5 := by rfl) : slicePick us.toArray (some 1) (some (2 + x)) none = ((us.drop 1).take (x + 1).toNat).toArray := by
  have hz : us.toArray.size = 5 := by rw [List.size_toArray, hi.length, hl]
  have e : (2 + x : Int) = ((2 + x.toNat : Nat) : Int) := by omega
  rw [e]
  have := slicePick_run us.toArray 1 (2 + x.toNat) (by rw [hz]; omega) (by omega)
  rw [show ((1 : Nat) : Int) = 1 from rfl] at this
  rw [this]
  congr 2
  omega
def tlB (b : Int) : List Int := if b = 0 then [0, 9] else if b = 1 then [127, 2] else []
theorem tlB_ok (b : Int) : tlB b = [0, 9] ∨ tlB b = [127, 2] ∨ tlB b = [] := by
  unfold tlB
  split
  · exact .inl rfl
  · split
    · exact .inr (.inl rfl)
    · exact .inr (.inr rfl)
theorem tail_pick {g h : Heap} {L l0 l1 l2 lt : Addr} {n0 n1 n2 n3 : Nat} {t1 t2 t3 t4 : Tok} {rest : List (Addr × Obj)} {b : Int} (_ : News g L h ((lt, listOf #[.ref l0, .ref l1, .ref l2] n3) :: (l2, listOf #[] n2) :: (l1, listOf #[.int 127 t3, .int 2 t4] n1) :: (l0, listOf #[.int 0 t1, .int 9 t2] n0) :: rest)) (hb : 0 ≤ b ∧ b ≤ 2) :
    ∃ lx tv n, (#[Value.ref l0, .ref l1, .ref l2] : Array Value)[b.toNat]? = some (.ref lx) ∧ (lx, listOf (List.toArray tv) n) ∈ ((lt, listOf #[.ref l0, .ref l1, .ref l2] n3) :: (l2, listOf #[] n2) :: (l1, listOf #[.int 127 t3, .int 2 t4] n1) :: (l0, listOf #[.int 0 t1, .int 9 t2] n0) :: rest) ∧ IntsAre tv (tlB b) := by
  have h3 : b = 0 ∨ b = 1 ∨ b = 2 := by omega
  rcases h3 with rfl | rfl | rfl
  · exact ⟨l0, [.int 0 t1, .int 9 t2], n0, rfl, .tail _ (.tail _ (.tail _ (.head _))), .cons _ _ (.cons _ _ .nil)⟩
  · exact ⟨l1, [.int 127 t3, .int 2 t4], n1, rfl, .tail _ (.tail _ (.head _)), .cons _ _ (.cons _ _ .nil)⟩
  · exact ⟨l2, [], n2, rfl, .tail _ (.head _), .nil⟩
theorem tlB_le (b : Int) : (tlB b).length ≤ 2 := by
  rcases tlB_ok b with h | h | h <;> rw [h] <;> decide
theorem news_keep3 {g h : Heap} {L : Addr} {a b c d e f i j : Addr × Obj} (N : News g L h [a, b, c, d, e, f, i, j]) : News g L h [a, f, j] := fun p hp => by
  rcases List.mem_cons.mp hp with rfl | hp
  · exact N _ (.head _)
  · rcases List.mem_cons.mp hp with rfl | hp
    · exact N _ (.tail _ (.tail _ (.tail _ (.tail _ (.tail _ (.head _))))))
    · rw [List.mem_singleton.mp hp]
      exact N _ (.tail _ (.tail _ (.tail _ (.tail _ (.tail _ (.tail _ (.tail _ (.head _))))))))
-- the rows of the list that is due
structure RowEnd (h₀ : Heap) (L : Addr) (m : Str → Option Value) (all : List (Addr × Obj)) (j : Nat) (k : Int) (s : Shared) (y : Value) (s' : Shared) : Prop where
  out : ∃ q t u n h' tk', y = .ref q ∧ s' = { s with heap := h', toks := tk' } ∧ Fr h₀ L h' m ∧ News h₀ L h' ((q, ({ cls := .type "tuple", data := .seq [Value.str (loL j) t, Value.str (numS k) u].toArray n } : Obj)) :: all) ∧ ∀ p ∈ all, p.1 ≠ q
open LCg in
theorem rest_rows {prog : Program} {w : World} {A : Around} {h₀ : Heap} {L : Addr} {m : Str → Option Value} {env : Env} {elt : Expr} {x : Str} {scope : Scope} {cl : List (Str × Addr)} {s : Shared} {Fin : List Value → List (Addr × Obj) → Prop} {news : List (Addr × Obj)} {ts : List Int} {a : Int} {n : Nat} (hn : n = ts.length)
    (turn : ∀ (i : Nat) (t : Tok) I oI C oC D ys m₂ h tk nx (E' : Value → Shared → Prop), i < ts.length → NsObj oC m₂ → m₂ x = some (.int (a + (i : Int)) t) → Fr h₀ L h m → News h₀ L h ((I, oI) :: (C, oC) :: (D, lst ys) :: (nx ++ news)) →
      wpAny (model prog w) A (eval elt (compEnvC scope cl C env)) (fun y s' => RowEnd h₀ L m ((I, oI) :: (C, oC) :: (D, lst ys) :: (nx ++ news)) i (ts.getD i 0) { s with heap := h, toks := tk } y s') E' { s with heap := h, toks := tk })
    (fin : ∀ ys nx, DatAll nx ys (rowsD ts) → Fin ys (nx ++ news)) : CompRest prog w A h₀ L m env elt x scope cl s (fun _ => True) (fun i v => ∃ t, v = .int (a + (i : Int)) t) Fin n 0 [] news := by
  have go : ∀ k i ys nx, i + k = ts.length → DatAll nx ys (rowsD (ts.take i)) → CompRest prog w A h₀ L m env elt x scope cl s (fun _ => True) (fun i v => ∃ t, v = .int (a + (i : Int)) t) Fin k i ys (nx ++ news) := by
    intro k
    induction k with
    | zero =>
      intro i ys nx hik hys
      have e : ts.take i = ts := List.take_of_length_le (by omega)
      rw [e] at hys
      exact CompRest.zero (fin ys nx hys)
    | succ k ih =>
      intro i ys nx hik hys
      refine CompRest.succ fun v I oI C oC D m₂ h tk E' hv hC hx F N off _ => ?_
      obtain ⟨t, rfl⟩ := hv
      have hi : i < ts.length := by omega
      refine wpAny_mono (turn i t I oI C oC D ys m₂ h tk nx E' hi hC hx F N) (fun y s' hy => ?_) fun _ _ e => e
      obtain ⟨q, t1, u1, c, h', tk', rfl, rfl, F', N', hq⟩ := hy
      have hlen : (ts.take i).length = i := by rw [List.length_take]; omega
      have hrow : DatAll ((q, ({ cls := .type "tuple", data := .seq [Value.str (loL i) t1, Value.str (numS (ts.getD i 0)) u1].toArray c } : Obj)) :: nx) (ys ++ [Value.ref q]) (rowsD (ts.take (i + 1))) := by
        have e : ts.take (i + 1) = ts.take i ++ [ts.getD i 0] := by
          rw [List.take_add_one, List.getD, List.getElem?_eq_getElem hi]; rfl
        rw [e]
        have := dat_row (q := q) (n := c) (k := ts.getD i 0) (t := t1) (u := u1) hys
        rw [hlen] at this
        exact this
      refine CompEnd.intro F' N' (((q, ({ cls := .type "tuple", data := .seq [Value.str (loL i) t1, Value.str (numS (ts.getD i 0)) u1].toArray c } : Obj)) :: nx) ++ news) ?_ ⟨⟨?_, ?_, ?_⟩, off⟩ True.intro (ih (i + 1) _ ((q, _) :: nx) (by omega) hrow)
      · intro p hp
        rcases List.mem_cons.mp hp with rfl | hp
        · exact .tail _ (.head _)
        · rcases List.mem_cons.mp hp with rfl | hp
          · exact .tail _ (.tail _ (.head _))
          · rcases List.mem_cons.mp hp with rfl | hp
            · exact .tail _ (.tail _ (.tail _ (.head _)))
            · rcases List.mem_cons.mp hp with rfl | hp
              · exact .head _
              · exact .tail _ (.tail _ (.tail _ (.tail _ hp)))
      · exact Ne.symm (hq _ (.head _))
      · exact Ne.symm (hq _ (.tail _ (.head _)))
      · exact Ne.symm (hq _ (.tail _ (.tail _ (.head _))))
  exact go n 0 [] [] (by omega) .nil
theorem news_cell {g h : Heap} {L : Addr} {n r a b c : Addr × Obj} (N : News g L h [n, r, a, b, c]) : News g L h [c, n, r] := fun p hp => by
  rcases List.mem_cons.mp hp with rfl | hp
  · exact N _ (.tail _ (.tail _ (.tail _ (.tail _ (.head _)))))
  · rcases List.mem_cons.mp hp with rfl | hp
    · exact N _ (.head _)
    · rw [List.mem_singleton.mp hp]
      exact N _ (.tail _ (.head _))
theorem off_cell {g h : Heap} {L rn r cc : Addr} {on orr oc : Obj} {a b : Addr × Obj} (_ : News g L h [(rn, on), (r, orr), a, b, (cc, oc)]) (h1 : ∀ p ∈ [a, b, (cc, oc)], p.1 ≠ r) (h2 : ∀ p ∈ [(r, orr), a, b, (cc, oc)], p.1 ≠ rn) : ∀ q ∈ [(rn, on), (r, orr)], q.1 ≠ cc := fun q hq => by
  rcases List.mem_cons.mp hq with rfl | hq
  · exact Ne.symm (h2 (cc, oc) (.tail _ (.tail _ (.tail _ (.head _)))))
  · rw [List.mem_singleton.mp hq]
    exact Ne.symm (h1 (cc, oc) (.tail _ (.tail _ (.head _))))
theorem ex_mem {g h : Heap} {L : Addr} {a b c p q r : Addr × Obj} {nx : List (Addr × Obj)} (_ : News g L h (a :: b :: c :: (nx ++ [p, q, r]))) : ∃ ex, ex = nx ++ [p, q, r] ∧ p ∈ ex ∧ q ∈ ex :=
  ⟨_, rfl, List.mem_append_right _ (.head _), List.mem_append_right _ (.tail _ (.head _))⟩
theorem nums_facts_at (ss : List Int) (b : Int) : ∀ f ns, 1 ∈ ns → (numsT ss b f ns).length ≤ ns.length + f ∧ 1 ∈ numsT ss b f ns
  | 0, ns, h => ⟨Nat.le_refl _, h⟩
  | f + 1, ns, h => by
    rw [numsT]
    split
    · have := nums_facts_at ss b f (stepN ss b ns) (List.mem_append_left _ h)
      refine ⟨Nat.le_trans this.1 ?_, this.2⟩
      rw [stepN, List.length_append, List.length_singleton]
      omega
    · exact ⟨Nat.le_add_right _ _, h⟩
theorem nums_facts (ss : List Int) (b : Int) : (numsT ss b 12 [1]).length ≤ 13 ∧ 1 ∈ numsT ss b 12 [1] := nums_facts_at ss b 12 [1] (.head _)
def dueT (ns : List Int) : List Int := (List.range 12).map fun i : Nat => leastT ns 12 (1 + (i : Int))
theorem due_len (ns : List Int) : (dueT ns).length = 12 := by rw [dueT, List.length_map, List.length_range]
theorem due_get {ns : List Int} {i : Nat} (h : i < 12) : (dueT ns).getD i 0 = leastT ns 12 (1 + (i : Int)) := by
  simp [dueT, List.getD, h]
theorem marks_len {ss : List Int} (h : ss.length ≤ 4) (tl : List Int) : (marksT ss tl).length = 12 := by
  have : gtot ss tl ≤ 12 := by rw [gtot]; split <;> omega
  rw [marksT, mrkD, List.length_append, List.length_map, List.length_range, List.length_map, List.length_range]
  omega
theorem gval_bounds {ss : List Int} (h : 0 < ss.length) (hb : ∀ x ∈ ss, 1 ≤ x ∧ x ≤ 5) (n : Nat) : 1 ≤ gval ss n ∧ gval ss n ≤ 5 := by
  unfold gval
  split
  · exact hb _ (getD_mem (by assumption))
  · exact hb _ (getD_mem (by omega))
theorem psum_bounds {ss : List Int} (h : 0 < ss.length) (hb : ∀ x ∈ ss, 1 ≤ x ∧ x ≤ 5) : ∀ n, 0 ≤ psum ss n ∧ psum ss n ≤ 5 * (n : Int)
  | 0 => by simp [psum]
  | n + 1 => by
    have h1 := psum_bounds h hb n
    have h2 := gval_bounds h hb n
    rw [psum]
    omega
theorem marks_bounds {ss : List Int} (hl : 0 < ss.length ∧ ss.length ≤ 4) (hb : ∀ x ∈ ss, 1 ≤ x ∧ x ≤ 5) (tl : List Int) : ∀ x ∈ marksT ss tl, 0 ≤ x ∧ x ≤ 1000 := by
  have hg : gtot ss tl ≤ 12 := by rw [gtot]; split <;> omega
  intro x hx
  rcases List.mem_append.mp hx with hx | hx
  · obtain ⟨i, hi, rfl⟩ := List.mem_map.mp hx
    have := psum_bounds hl.1 hb (i + 1)
    have := List.mem_range.mp hi
    omega
  · obtain ⟨i, hi, rfl⟩ := List.mem_map.mp hx
    have := psum_bounds hl.1 hb (gtot ss tl)
    have := List.mem_range.mp hi
    omega
theorem least_bounds {ns : List Int} (h1 : 1 ∈ ns) : ∀ (f : Nat) (k : Int), 1 ≤ k → 1 ≤ leastT ns f k ∧ leastT ns f k ≤ k
  | 0, k, h => ⟨h, Int.le_refl k⟩
  | f + 1, k, h => by
    rw [leastT]
    split
    · exact ⟨h, Int.le_refl k⟩
    · next hk =>
      have hk1 : k ≠ 1 := fun e => hk (e ▸ h1)
      have hm : (1 : Int) ∈ ns.filter fun n => decide (n < k) := List.mem_filter.mpr ⟨h1, by simp; omega⟩
      have hge := (foldl_max_ge (ns.filter fun n => decide (n < k)) 0).2 1 hm
      have hle := foldl_max_le (M := k - 1) (ns.filter fun n => decide (n < k)) 0 (by omega) fun a ha => by
        have := (List.mem_filter.mp ha).2
        simp at this
        omega
      have := least_bounds h1 f (k - maxN (ns.filter fun n => decide (n < k))) (by unfold maxN; omega)
      unfold maxN at this ⊢
      omega
theorem lo_ok : ∀ i, i < 12 → PyData.strOk (loL i) = true := by decide +kernel
theorem num_ok : ∀ k : Nat, k < 13 → PyData.strOk (numS (k : Int)) = true := by decide +kernel
theorem rows_ok {ts : List Int} (hl : ts.length = 12) (hb : ∀ x ∈ ts, 1 ≤ x ∧ x ≤ 12) : ∀ d ∈ rowsD ts, kqdOk 8 d = true := by
  intro d hd
  rw [rowsD] at hd
  obtain ⟨i, h, rfl⟩ := List.mem_mapIdx.mp hd
  have hk := hb _ (List.getElem_mem h)
  have e : ts[i] = ((ts[i].toNat : Nat) : Int) := by omega
  have h2 := num_ok ts[i].toNat (by omega)
  rw [← e] at h2
  have h1 := lo_ok i (by omega)
  simp [rowD, kqdOk, h1, h2]
theorem due_bounds {ns : List Int} (h1 : 1 ∈ ns) : ∀ x ∈ dueT ns, 1 ≤ x ∧ x ≤ 12 := by
  intro x hx
  obtain ⟨i, hi, rfl⟩ := List.mem_map.mp hx
  have := least_bounds h1 12 (1 + (i : Int)) (by omega)
  have := List.mem_range.mp hi
  omega
theorem pct_d {prog : Program} {w : World} {A : Around} {s : Shared} {E Q : Value → Shared → Prop} {k : Int} {t u : Tok} (h1 : 1 ≤ k) (h2 : k ≤ 12) (h : ∀ t' k', Q (.str (numS k) t') { s with toks := k' }) :
    wpAny (model prog w) A (binaryOp .Mod (.str (Str.ofString "%d") t) (.int k u)) Q E s := by
  (refine' KPc.mod_int ?kpcF ?kpcl ?kpch ?kpcm ?_; (case kpcF => kpc_eq); (case kpcl => kpc_fact); (case kpch => kpc_fact); (case kpcm => k_dflt kpc_run))
  intro t' k'
  exact h t' k'
end
section
local macro_rules | `(tactic| ktr_enter) => `(tactic| first | (refine' code_def ?k1 ?k2 ?k3 ?k4 ?k5 ?kA ?kF ?kK ?k6 ?k7 ?k8 ?k9 ?kB ?_ ?c2 ?c3 ?c4 ?c5; (case kA => exact rfl); (case kF => exact rfl); (case kK => first | exact rfl | assumption); (case k1 => k_asm); (case k2 => k_asm); (case k3 => k_asm); (case k4 => k_asm); (case k5 => k_asm); (case k6 => k_is); (case k7 => k_is); (case k8 => ktr_room); (case k9 => first | exact BindsTo.of_eq rfl | exact binds_K (by k_in) rfl (by k_is) rfl rfl rfl); (case c5 => decide); (case kB => exact locs rfl); (case c2 => exact rfl); (case c3 => exact rfl); (case c4 => exact rfl); k_whole; intro g' L' h' FG' F' N' B' X' T'; (try dsimp only); (try k_lift B'); (try k_fold)) | (refine' code_defC ?k1 ?k2 ?k3 ?k4 ?k5 ?kA ?kF ?kK ?k6 ?k7 ?k8 ?k9 ?kB ?kD ?_ ?c2 ?c3 ?c4; (case kA => exact rfl); (case kF => exact rfl); (case kK => first | exact rfl | assumption); (case k1 => k_asm); (case k2 => k_asm); (case k3 => k_asm); (case k4 => k_asm); (case k5 => k_asm); (case k6 => k_is); (case k7 => k_is); (case k8 => ktr_room); (case k9 => first | exact BindsTo.of_eq rfl | exact binds_K (by k_in) rfl (by k_is) rfl rfl rfl); (case kB => exact rfl); (case kD => decide +kernel); (case c2 => exact rfl); (case c3 => exact rfl); (case c4 => exact rfl); k_whole; intro g' L' h' tk' cells' FG' F' N' Y' B' X' T' l1; (try k_lt l1); k_cells Y'; (try simp only [List.cons_append, List.nil_append] at N'); (try dsimp only); (try k_lift B'); (try k_fold)))
local macro_rules | `(tactic| walk_at "call builtin:str.lower") => `(tactic| (k_here; (with_reducible show wpAny _ _ (call (Value.builtin "str.lower") [Value.str _ _]) _ _ _); k_dflt (refine' lower_to ?k1 ?k2 ?_; (case k1 => assumption); (case k2 => first | exact Nat.le_of_ble_eq_true rfl | assumption); k_whole); intro t' k'))
local macro_rules | `(tactic| walk_at "getMethod ref") => `(tactic| (k_here; (with_reducible show wpAny _ _ (getMethod (Value.ref _) (PySem.Str.ofString "search") _) _ _ _); k_dflt (refine' search_meth ?k1 ?k2 ?_; (case k1 => k_in); (case k2 => first | exact Or.inl rfl | exact Or.inr rfl); k_whole)))
local macro_rules | `(tactic| walk_at "call builtin:re.Pattern.search") => `(tactic| (k_here; (with_reducible show wpAny _ _ (call (Value.builtin "re.Pattern.search") [Value.ref _, Value.str _ _]) _ _ _); k_dflt (refine' search_none ?k1 ?k2 ?k3 ?_; (case k1 => k_in); (case k2 => first | exact Or.inl rfl | exact Or.inr rfl); (case k3 => assumption); k_whole)))
local macro_rules | `(tactic| k_room) => `(tactic| ktr_room)
local macro_rules | `(tactic| ktn_open) => `(tactic| first | exact agree_base (by assumption) | (refine' agree_step ?q1 ?q2 ?q3; (case q1 => assumption); (case q2 => decide +kernel); (case q3 => ktn_open)) | (refine' agree_in ?q1 ?q2 ?q3; (case q1 => assumption); (case q2 => decide +kernel); (case q3 => ktn_open)) | (dsimp only; ktn_open))
local macro_rules | `(tactic| k_mem) => `(tactic| (refine mem_of ?_; ktr_member))
local macro_rules | `(tactic| k_all) => `(tactic| first | assumption | (refine' off_rest ?q1 ?q2; (case q1 => first | assumption | exact restLt_of (by assumption)); (case q2 => (try dsimp only); omega)))
local macro_rules | `(tactic| walk_at "eval ListComp") => `(tactic| (k_here; refine Hold.out ?_))
local macro_rules | `(tactic| walk_at "call ref") => `(tactic| (k_here; (with_reducible show wpAny _ _ (call (Value.ref 110) [Value.ref _, Value.str _ _]) _ _ _); k_dflt (refine' del_c ?k1 ?k2 ?k3 ?k4 ?k5 ?k6 ?k7 ?k8 ?k9 ?k10 ?k11 ?k12 ?k13 ?_; (case k1 => k_asm); (case k2 => k_asm); (case k3 => k_asm); (case k4 => k_asm); (case k5 => first | exact rfl | assumption); (case k8 => k_asm); (case k9 => k_asm); (case k10 => k_asm); (case k11 => k_asm); (case k12 => k_asm); (case k13 => k_asm); (case k6 => ktr_room); (case k7 => ktr_units)); intro v' nn' h' tk' F' N'; (try k_sweep)))
local macro_rules | `(tactic| walk_at "delItem ref") => `(tactic| (k_here; (with_reducible show wpAny _ _ (delItem (Value.ref _) _) _ _ _); k_dflt (refine' delItem_own ?F ?X ?I ?hQ ?hS ?hF ?_; (case F => k_asm); (case X => k_asm); (case I => k_inst); (case hS => k_is); (case hF => k_is); (case hQ => k_is); k_whole)))
local macro_rules | `(tactic| walk_at "call builtin:list.append") => `(tactic| (k_here; (with_reducible show wpAny _ _ (call (Value.builtin _) [Value.ref _, _]) _ _ _); k_dflt (refine' append_K ?k1 ?k2 ?k3 ?_ ?z; (case k1 => k_asm); (case k2 => k_asm); (case k3 => k_upd); (case z => assumption); k_whole); intro h' F' N'; (try k_sweep)))
local macro_rules | `(tactic| walk_at "exec For Name Call cons nil") => `(tactic| (k_here; refine Hold.out ?_))
local macro_rules | `(tactic| walk_at "exec For Tuple Name cons nil") => `(tactic| (k_here; refine Hold.out ?_))
local macro_rules | `(tactic| walk_at "exec For Tuple Attribute cons nil") => `(tactic| (k_here; refine Hold.out ?_))
local macro_rules | `(tactic| walk_at "exec While UnaryOp cons nil") => `(tactic| (k_here; refine Hold.out ?_))
local macro_rules | `(tactic| walk_at "exec While Compare cons nil") => `(tactic| (k_here; refine Hold.out ?_))
local macro_rules | `(tactic| walk_at "pyIter ref") => `(tactic| (k_here; (with_reducible show wpAny _ _ (pyIter (Value.ref _)) (fun it s₂ => LoopAtV _ _ _ _ _ _ _ _ _ it s₂) _ _); refine Hold.out ?_))
local macro_rules | `(tactic| walk_at "no such place") => `(tactic| fail)
theorem off_PP : True := by
  w_top off
  trivial
-- the plain law (Schwenk), proved without a case: a heap is in one way a sum of numbers, each above the mark of the one before it; the least of them is what wins
inductive Rep (M : Int → Int) (ns : List Int) (a : Int) : Int → Int → Prop
  | one : a ∈ ns → Rep M ns a a a
  | more {c d n : Int} : Rep M ns a d n → c ∈ ns → M d < c → Rep M ns a c (n + c)
structure Sch (M : Int → Int) (ns : List Int) : Prop where
  one : (1 : Int) ∈ ns
  pos : ∀ x ∈ ns, 1 ≤ x
  mono : ∀ s t : Int, 1 ≤ s → s ≤ t → M s ≤ M t
  next : ∀ h ∈ ns, ∀ g ∈ ns, h < g → ∃ j ∈ ns, h ≤ M j ∧ (∀ i ∈ ns, i < j → M i < h) ∧ h + j ∈ ns ∧ ∀ e ∈ ns, h < e → h + j ≤ e
theorem rep_bounds {M : Int → Int} {ns : List Int} (S : Sch M ns) {a c n : Int} (r : Rep M ns a c n) : a ∈ ns ∧ c ∈ ns ∧ a ≤ n ∧ c ≤ n := by
  induction r with
  | one h => exact ⟨h, h, Int.le_refl _, Int.le_refl _⟩
  | more r hc hm ih =>
    have := S.pos _ ih.1
    have := S.pos _ hc
    exact ⟨ih.1, hc, by omega, by omega⟩
theorem rep_below {M : Int → Int} {ns : List Int} (S : Sch M ns) {a c n : Int} (r : Rep M ns a c n) : ∀ e ∈ ns, c < e → n < e := by
  induction r with
  | one h => exact fun _ _ h => h
  | @more c d n r hc hm ih =>
    intro e he hce
    obtain ⟨j, hj, h1, _, _, h2⟩ := S.next c hc e he hce
    have hd : d < j := by
      rcases Int.lt_or_le d j with q | q
      · exact q
      · have := S.mono j d (S.pos j hj) q
        omega
    have := ih j hj hd
    have := h2 e he hce
    omega
theorem rep_join {M : Int → Int} {ns : List Int} {a c n : Int} (r : Rep M ns a c n) {a₂ c₂ n₂ : Int} (r₂ : Rep M ns a₂ c₂ n₂) (h : M c < a₂) : Rep M ns a c₂ (n + n₂) := by
  induction r₂ with
  | one ha => exact .more r ha h
  | more _ hc hm ih =>
    have := Rep.more ih hc hm
    rwa [Int.add_assoc] at this
theorem rep_rest {M : Int → Int} {ns : List Int} {a c n : Int} (r : Rep M ns a c n) : (n = a ∧ c = a) ∨ ∃ a₂, Rep M ns a₂ c (n - a) ∧ M a < a₂ := by
  induction r with
  | one _ => exact .inl ⟨rfl, rfl⟩
  | @more c d n r hc hm ih =>
    refine .inr ?_
    rcases ih with ⟨rfl, rfl⟩ | ⟨a₂, r₂, h₂⟩
    · refine ⟨c, ?_, hm⟩
      rw [show d + c - d = c by omega]
      exact .one hc
    · refine ⟨a₂, ?_, h₂⟩
      rw [show n + c - a = n - a + c by omega]
      exact .more r₂ hc hm
theorem rep_least {M : Int → Int} {ns : List Int} (S : Sch M ns) {a c n : Int} (r : Rep M ns a c n) : ∀ f : Nat, n ≤ (f : Int) → leastT ns f n = a := by
  induction r with
  | one h =>
    intro f _
    cases f with
    | zero => rfl
    | succ f => rw [leastT, if_pos h]
  | @more c d n r hc hm ih =>
    intro f hf
    have hb := rep_bounds S r
    have h1 := S.pos _ hb.1
    have h2 := S.pos _ hc
    have low := rep_below S (Rep.more r hc hm)
    cases f with
    | zero => omega
    | succ f =>
      have hno : ¬ n + c ∈ ns := fun q => by
        have := low _ q (by omega)
        omega
      have hmax : maxN (ns.filter fun x => decide (x < n + c)) = c := by
        refine Int.le_antisymm (foldl_max_le _ 0 (by omega) fun x hx => ?_) ((foldl_max_ge _ 0).2 c (List.mem_filter.mpr ⟨hc, by simp; omega⟩))
        have q := List.mem_filter.mp hx
        have z : x < n + c := by simpa using q.2
        rcases Int.lt_or_le c x with w | w
        · have := low x q.1 w
          omega
        · exact w
      rw [leastT, if_neg hno, hmax, show n + c - c = n by omega]
      exact ih f (by omega)
theorem top_below : ∀ (l : List Int) (n : Int), (∃ x ∈ l, x < n) → ∃ c ∈ l, c < n ∧ ∀ e ∈ l, e < n → e ≤ c
  | [], _, h => by
    obtain ⟨x, hx, _⟩ := h
    exact nomatch hx
  | y :: l, n, h => by
    by_cases q : ∃ x ∈ l, x < n
    · obtain ⟨c, hc, h1, h2⟩ := top_below l n q
      by_cases z : y < n ∧ c < y
      · refine ⟨y, .head _, z.1, fun e he hl => ?_⟩
        rcases List.mem_cons.mp he with rfl | he
        · exact Int.le_refl _
        · have := h2 e he hl
          omega
      · refine ⟨c, .tail _ hc, h1, fun e he hl => ?_⟩
        rcases List.mem_cons.mp he with rfl | he
        · omega
        · exact h2 e he hl
    · obtain ⟨x, hx, hn⟩ := h
      rcases List.mem_cons.mp hx with rfl | hx
      · refine ⟨x, .head _, hn, fun e he hl => ?_⟩
        rcases List.mem_cons.mp he with rfl | he
        · exact Int.le_refl _
        · exact absurd ⟨e, he, hl⟩ q
      · exact absurd ⟨x, hx, hn⟩ q
theorem rep_all {M : Int → Int} {ns : List Int} (S : Sch M ns) {top : Int} (ht : top ∈ ns) : ∀ (k : Nat) (n : Int), 1 ≤ n → n ≤ (k : Int) → n ≤ top → ∃ a c, Rep M ns a c n
  | 0, n, h1, h2, _ => by omega
  | k + 1, n, h1, h2, h3 => by
    by_cases q : n ∈ ns
    · exact ⟨n, n, .one q⟩
    · have hn1 : n ≠ 1 := fun e => q (e ▸ S.one)
      obtain ⟨c, hc, hcn, hmax⟩ := top_below ns n ⟨1, S.one, by omega⟩
      have := S.pos c hc
      obtain ⟨a, d, r⟩ := rep_all S ht k (n - c) (by omega) (by omega) (by omega)
      have hb := rep_bounds S r
      obtain ⟨j, hj, g1, g2, g3, _⟩ := S.next c hc top ht (by omega)
      have := S.pos j hj
      have hd : M d < c := by
        rcases Int.lt_or_le d j with w | w
        · exact g2 d hb.2.1 w
        · have hne : c + j ≠ n := fun e => q (e ▸ g3)
          have := hmax (c + j) g3 (by omega)
          omega
      have := Rep.more r hc hd
      rw [show n - c + c = n by omega] at this
      exact ⟨a, c, this⟩
theorem seek_at {ms ts : List Int} {n k : Nat} (lose : ∀ t : Nat, 1 ≤ t → t < k → ¬ t = n + 1 ∧ ¬ ms.getD (t - 1) 0 < ts.getD (n - t) 0) (win : k = n + 1 ∨ ms.getD (k - 1) 0 < ts.getD (n - k) 0) : ∀ f take : Nat, 1 ≤ take → take ≤ k → k ≤ take + f → seekT ms ts n f take = k
  | 0, take, _, h2, h3 => by rw [seekT]; omega
  | f + 1, take, h1, h2, h3 => by
    rw [seek_succ]
    by_cases e : take = k
    · subst e
      by_cases q : take = n + 1
      · rw [if_pos q]
      · rw [if_neg q, if_pos (win.resolve_left q)]
    · have := lose take h1 (by omega)
      rw [if_neg this.1, if_neg this.2]
      exact seek_at lose win f (take + 1) (by omega) (by omega) (by omega)
theorem play_is {M : Int → Int} {ns ms : List Int} (S : Sch M ns) {top : Int} (ht : top ∈ ns) (h12 : 12 ≤ top) (hms : ∀ t : Nat, 1 ≤ t → t ≤ 12 → ms.getD (t - 1) 0 = M (t : Int)) : ∀ n : Nat, n ≤ 12 → playT ms n = (List.range n).map fun i : Nat => leastT ns 12 (1 + (i : Int))
  | 0, _ => rfl
  | n + 1, hn => by
    have ih := play_is S ht h12 hms n (by omega)
    obtain ⟨a, c, r⟩ := rep_all S ht 12 (1 + (n : Int)) (by omega) (by omega) (by omega)
    have hb := rep_bounds S r
    have ha := S.pos a hb.1
    obtain ⟨k, hk⟩ : ∃ k : Nat, a = (k : Int) := ⟨a.toNat, by omega⟩
    subst hk
    have el := rep_least S r 12 (by omega)
    have len : ((List.range n).map fun i : Nat => leastT ns 12 (1 + (i : Int))).length = n := by rw [List.length_map, List.length_range]
    have row : ∀ t : Nat, 1 ≤ t → t ≤ n → ((List.range n).map fun i : Nat => leastT ns 12 (1 + (i : Int))).getD (n - t) 0 = leastT ns 12 (1 + (n : Int) - (t : Int)) := by
      intro t h1 h2
      rw [List.getD, List.getElem?_map, List.getElem?_range (by omega)]
      show leastT ns 12 (1 + ((n - t : Nat) : Int)) = _
      congr 1
      omega
    have en : nextT ms ((List.range n).map fun i : Nat => leastT ns 12 (1 + (i : Int))) = k := by
      rw [nextT, len]
      refine seek_at (fun t h1 h2 => ⟨by omega, ?_⟩) ?_ 12 1 (by omega) (by omega) (by omega)
      · rw [row t h1 (by omega), hms t h1 (by omega)]
        intro q
        obtain ⟨a₁, c₁, r₁⟩ := rep_all S ht 12 (t : Int) (by omega) (by omega) (by omega)
        obtain ⟨a₂, c₂, r₂⟩ := rep_all S ht 12 (1 + (n : Int) - (t : Int)) (by omega) (by omega) (by omega)
        rw [rep_least S r₂ 12 (by omega)] at q
        have b₁ := rep_bounds S r₁
        have := S.mono c₁ (t : Int) (S.pos _ b₁.2.1) b₁.2.2.2
        have rr := rep_join r₁ r₂ (by omega)
        rw [show (t : Int) + (1 + (n : Int) - (t : Int)) = 1 + (n : Int) by omega] at rr
        have := rep_least S rr 12 (by omega)
        omega
      · rcases rep_rest r with ⟨e, _⟩ | ⟨a₂, r₂, h₂⟩
        · left; omega
        · right
          have b₂ := rep_bounds S r₂
          have := S.pos _ b₂.1
          rw [row k (by omega) (by omega), hms k (by omega) (by omega), rep_least S r₂ 12 (by omega)]
          exact h₂
    rw [playT, ih, en, List.range_succ, List.map_append, List.map_singleton, el]
structure NInv (M : Int → Int) (ns : List Int) : Prop where
  len : 0 < ns.length
  one : (1 : Int) ∈ ns
  rng : ∀ x ∈ ns, 1 ≤ x ∧ x ≤ lastN ns
  srt : ns.Pairwise fun x y => x < y
  next : ∀ h ∈ ns, h < lastN ns → ∃ j ∈ ns, h ≤ M j ∧ (∀ i ∈ ns, i < j → M i < h) ∧ h + j ∈ ns ∧ ∀ e ∈ ns, h < e → h + j ≤ e
theorem ninv_one (M : Int → Int) : NInv M [1] where
  len := Nat.one_pos
  one := .head _
  rng x hx := by rw [List.mem_singleton.mp hx]; exact ⟨Int.le_refl _, Int.le_refl _⟩
  srt := List.pairwise_singleton ..
  next h hh hl := by rw [List.mem_singleton.mp hh] at hl; exact absurd hl (Int.lt_irrefl _)
theorem ninv_step {ss : List Int} {b : Int} {ns : List Int} (h0 : 0 < ss.length) (hx : ∀ x ∈ ss, 1 ≤ x) (I : NInv (markV ss b) ns) : NInv (markV ss b) (stepN ss b ns) ∧ lastN ns < lastN (stepN ss b ns) := by
  have hp := fit_pos (b := b) h0 hx I.len fun x h => (I.rng x h).1
  have hl := lastN_mem I.len
  obtain ⟨j, rest, hf⟩ : ∃ j rest, fitN ss b ns = j :: rest := by
    cases q : fitN ss b ns with
    | nil => rw [q] at hp; exact absurd hp (Nat.lt_irrefl 0)
    | cons j rest => exact ⟨j, rest, rfl⟩
  have hj : j ∈ ns ∧ lastN ns ≤ markV ss b j := by
    have : j ∈ fitN ss b ns := by rw [hf]; exact .head _
    have q := List.mem_filter.mp this
    exact ⟨q.1, by simpa using q.2⟩
  have hmin : ∀ i ∈ ns, i < j → markV ss b i < lastN ns := by
    intro i hi hij
    rcases Int.lt_or_le (markV ss b i) (lastN ns) with q | q
    · exact q
    · have hm : i ∈ fitN ss b ns := List.mem_filter.mpr ⟨hi, by simpa using q⟩
      have hs : (fitN ss b ns).Pairwise fun x y => x < y := I.srt.filter _
      rw [hf] at hm hs
      rcases List.mem_cons.mp hm with rfl | hm
      · omega
      · have := (List.pairwise_cons.mp hs).1 i hm
        omega
  have hstep : stepN ss b ns = ns ++ [lastN ns + j] := by rw [stepN, hf]; rfl
  have hlast : lastN (stepN ss b ns) = lastN ns + j := by rw [hstep, lastN_snoc]
  have jr := I.rng j hj.1
  have mem : ∀ e, e ∈ stepN ss b ns → e ∈ ns ∨ e = lastN ns + j := by
    intro e he
    rw [hstep] at he
    rcases List.mem_append.mp he with he | he
    · exact .inl he
    · exact .inr (List.mem_singleton.mp he)
  have old : ∀ {e}, e ∈ ns → e ∈ stepN ss b ns := by
    intro e he
    rw [hstep]
    exact List.mem_append_left _ he
  have new : lastN ns + j ∈ stepN ss b ns := by
    rw [hstep]
    exact List.mem_append_right _ (.head _)
  refine ⟨⟨by rw [hstep, List.length_append]; exact Nat.lt_of_lt_of_le I.len (Nat.le_add_right _ _), old I.one, fun x h => ?_, ?_, fun h hh hlt => ?_⟩, by omega⟩
  · rw [hlast]
    rcases mem x h with h | rfl
    · have := I.rng x h
      omega
    · omega
  · rw [hstep, List.pairwise_append]
    refine ⟨I.srt, List.pairwise_singleton .., fun x h y hy => ?_⟩
    have := I.rng x h
    rw [List.mem_singleton.mp hy]
    omega
  · rw [hlast] at hlt
    have hin : h ∈ ns := (mem h hh).resolve_right (by omega)
    have hr := I.rng h hin
    by_cases q : h < lastN ns
    · obtain ⟨i, hi, g1, g2, g3, g4⟩ := I.next h hin q
      have ir := I.rng i hi
      have gr := I.rng _ g3
      refine ⟨i, old hi, g1, fun x hx' hxi => ?_, old g3, fun e he hhe => ?_⟩
      · exact g2 x ((mem x hx').resolve_right (by omega)) hxi
      · rcases mem e he with he | rfl
        · exact g4 e he hhe
        · omega
    · have e : h = lastN ns := by omega
      subst e
      refine ⟨j, old hj.1, hj.2, fun x hx' hxi => ?_, new, fun e he hhe => ?_⟩
      · exact hmin x ((mem x hx').resolve_right (by omega)) hxi
      · rcases mem e he with he | rfl
        · have := I.rng e he
          omega
        · exact Int.le_refl _
theorem ninv_nums {ss : List Int} {b : Int} (h0 : 0 < ss.length) (hx : ∀ x ∈ ss, 1 ≤ x) : ∀ (f : Nat) (ns : List Int), NInv (markV ss b) ns → 12 ≤ lastN ns + (f : Int) → NInv (markV ss b) (numsT ss b f ns) ∧ 12 ≤ lastN (numsT ss b f ns)
  | 0, ns, I, h => ⟨I, by rw [numsT]; omega⟩
  | f + 1, ns, I, h => by
    rw [numsT]
    split
    · have g := ninv_step h0 hx I
      exact ninv_nums h0 hx f _ g.1 (by omega)
    · exact ⟨I, by omega⟩
theorem take_sum_le : ∀ (ss : List Int) (s t : Nat), (∀ x ∈ ss, 1 ≤ x) → s ≤ t → (ss.take s).sum ≤ (ss.take t).sum
  | [], s, t, _, _ => by simp
  | x :: ss, 0, 0, _, _ => Int.le_refl _
  | x :: ss, 0, t + 1, hx, _ => by
    have := take_sum_le ss 0 t (fun y hy => hx y (.tail _ hy)) (by omega)
    have := hx x (.head _)
    rw [List.take_zero, List.take_succ_cons, List.sum_cons]
    rw [List.take_zero] at *
    omega
  | x :: ss, s + 1, 0, _, h => by omega
  | x :: ss, s + 1, t + 1, hx, h => by
    have := take_sum_le ss s t (fun y hy => hx y (.tail _ hy)) (by omega)
    rw [List.take_succ_cons, List.take_succ_cons, List.sum_cons, List.sum_cons]
    omega
theorem markV_mono {ss : List Int} {b : Int} (h0 : 0 < ss.length) (hx : ∀ x ∈ ss, 1 ≤ x) (s t : Int) (h1 : 1 ≤ s) (h : s ≤ t) : markV ss b s ≤ markV ss b t := by
  have hl := hx _ (getD_mem (l := ss) (j := ss.length - 1) (by omega))
  have hall : ∀ n, (ss.take n).sum ≤ ss.sum := by
    intro n
    have := take_sum_le ss n (max n ss.length) hx (by omega)
    rwa [List.take_of_length_le (i := max n ss.length) (by omega)] at this
  unfold markV
  by_cases c : t ≤ (ss.length : Int)
  · rw [if_pos (by omega), if_pos c]
    exact take_sum_le ss _ _ hx (by omega)
  · rw [if_neg c]
    by_cases d : s ≤ (ss.length : Int)
    · rw [if_pos d]
      have := hall s.toNat
      split
      · have := Int.mul_le_mul_of_nonneg_left hl (show 0 ≤ t - (ss.length : Int) by omega)
        omega
      · omega
    · rw [if_neg d]
      split
      · have := Int.mul_le_mul_of_nonneg_right (show s - (ss.length : Int) ≤ t - (ss.length : Int) by omega) (show 0 ≤ ss.getD (ss.length - 1) 0 by omega)
        omega
      · omega
theorem psum_low {ss : List Int} : ∀ n : Nat, n ≤ ss.length → psum ss n = (ss.take n).sum
  | 0, _ => rfl
  | n + 1, h => by
    rw [psum, psum_low n (by omega), List.take_succ_eq_append_getElem (by omega), List.sum_append, gval, if_pos (by omega), List.getD, List.getElem?_eq_getElem (by omega)]
    simp
theorem psum_high {ss : List Int} : ∀ d : Nat, psum ss (ss.length + d) = ss.sum + (d : Int) * ss.getD (ss.length - 1) 0
  | 0 => by
    rw [Nat.add_zero, psum_low _ (Nat.le_refl _), List.take_length]
    omega
  | d + 1 => by
    rw [← Nat.add_assoc, psum, psum_high d, gval, if_neg (by omega)]
    have : ((d + 1 : Nat) : Int) * ss.getD (ss.length - 1) 0 = (d : Int) * ss.getD (ss.length - 1) 0 + ss.getD (ss.length - 1) 0 := by
      rw [Int.natCast_add, Int.add_mul]
      omega
    omega
theorem marks_get {ss tl : List Int} (hg : gtot ss tl ≤ 12) {t : Nat} (h1 : 1 ≤ t) (h2 : t ≤ 12) : (marksT ss tl).getD (t - 1) 0 = if t ≤ gtot ss tl then psum ss t else max (psum ss (gtot ss tl)) (t : Int) := by
  have hm : (mrkD ss (gtot ss tl)).length = gtot ss tl := by rw [mrkD, List.length_map, List.length_range]
  rw [marksT, List.getD]
  split
  · rw [List.getElem?_append_left (by omega), mrkD, List.getElem?_map, List.getElem?_range (by omega)]
    show psum ss (t - 1 + 1) = _
    rw [Nat.sub_add_cancel h1]
  · rw [List.getElem?_append_right (by omega), hm, List.getElem?_map, List.getElem?_range (by omega)]
    show max (psum ss (gtot ss tl)) ((gtot ss tl + 1 + (t - 1 - gtot ss tl) : Nat) : Int) = _
    congr 1
    omega
theorem marks_markV {ss : List Int} (hl : 0 < ss.length ∧ ss.length ≤ 4) (b : Int) {t : Nat} (h1 : 1 ≤ t) (h2 : t ≤ 12) : (marksT ss (tlB b)).getD (t - 1) 0 = markV ss b (t : Int) := by
  have hg : gtot ss (tlB b) = if b = 0 then 12 else ss.length := by
    rw [gtot, tlB]
    by_cases q : b = 0
    · rw [if_pos q, if_pos rfl, if_pos q]
    · rw [if_neg q, if_neg q, if_neg]
      split
      · decide
      · decide
  have hle : gtot ss (tlB b) ≤ 12 := by rw [hg]; split <;> omega
  rw [marks_get hle h1 h2, hg, markV]
  by_cases q : b = 0
  · rw [if_pos q, if_pos q, if_pos h2]
    by_cases c : t ≤ ss.length
    · rw [if_pos (by omega), psum_low t c]
      rfl
    · rw [if_neg (by omega)]
      obtain ⟨d, rfl⟩ : ∃ d, t = ss.length + d := ⟨t - ss.length, by omega⟩
      rw [psum_high d]
      congr 2
      omega
  · rw [if_neg q, if_neg q]
    by_cases c : t ≤ ss.length
    · rw [if_pos c, if_pos (by omega), psum_low t c]
      rfl
    · rw [if_neg c, if_neg (by omega), psum_low _ (Nat.le_refl _), List.take_length]
theorem plain {ss : List Int} {b : Int} (hl : 0 < ss.length ∧ ss.length ≤ 4) (hb : ∀ x ∈ ss, 1 ≤ x ∧ x ≤ 5) : playT (marksT ss (tlB b)) 12 = dueT (numsT ss b 12 [1]) := by
  have hx : ∀ x ∈ ss, 1 ≤ x := fun x h => (hb x h).1
  obtain ⟨I, h12⟩ := ninv_nums (b := b) hl.1 hx 12 [1] (ninv_one _) (by decide)
  have S : Sch (markV ss b) (numsT ss b 12 [1]) := ⟨I.one, fun x h => (I.rng x h).1, fun s t => markV_mono hl.1 hx s t, fun h hh g hg hlt => I.next h hh (by
    have := I.rng g hg
    omega)⟩
  exact play_is S (lastN_mem I.len) h12 (fun t h1 h2 => marks_markV hl b h1 h2) 12 (Nat.le_refl _)
end
section
local macro_rules | `(tactic| ktr_enter) => `(tactic| first | (refine' code_def ?k1 ?k2 ?k3 ?k4 ?k5 ?kA ?kF ?kK ?k6 ?k7 ?k8 ?k9 ?kB ?_ ?c2 ?c3 ?c4 ?c5; (case kA => exact rfl); (case kF => exact rfl); (case kK => first | exact rfl | assumption); (case k1 => k_asm); (case k2 => k_asm); (case k3 => k_asm); (case k4 => k_asm); (case k5 => k_asm); (case k6 => k_is); (case k7 => k_is); (case k8 => ktr_room); (case k9 => first | exact BindsTo.of_eq rfl | exact binds_K (by k_in) rfl (by k_is) rfl rfl rfl); (case c5 => decide); (case kB => exact locs rfl); (case c2 => exact rfl); (case c3 => exact rfl); (case c4 => exact rfl); k_whole; intro g' L' h' FG' F' N' B' X' T'; (try dsimp only); (try k_lift B'); (try k_fold)) | (refine' code_defC ?k1 ?k2 ?k3 ?k4 ?k5 ?kA ?kF ?kK ?k6 ?k7 ?k8 ?k9 ?kB ?kD ?_ ?c2 ?c3 ?c4; (case kA => exact rfl); (case kF => exact rfl); (case kK => first | exact rfl | assumption); (case k1 => k_asm); (case k2 => k_asm); (case k3 => k_asm); (case k4 => k_asm); (case k5 => k_asm); (case k6 => k_is); (case k7 => k_is); (case k8 => ktr_room); (case k9 => first | exact BindsTo.of_eq rfl | exact binds_K (by k_in) rfl (by k_is) rfl rfl rfl); (case kB => exact rfl); (case kD => decide +kernel); (case c2 => exact rfl); (case c3 => exact rfl); (case c4 => exact rfl); k_whole; intro g' L' h' tk' cells' FG' F' N' Y' B' X' T' l1; (try k_lt l1); k_cells Y'; (try simp only [List.cons_append, List.nil_append] at N'); (try dsimp only); (try k_lift B'); (try k_fold)))
local macro_rules | `(tactic| walk_at "call builtin:str.lower") => `(tactic| (k_here; (with_reducible show wpAny _ _ (call (Value.builtin "str.lower") [Value.str _ _]) _ _ _); k_dflt (refine' lower_to ?k1 ?k2 ?_; (case k1 => assumption); (case k2 => first | exact Nat.le_of_ble_eq_true rfl | assumption); k_whole); intro t' k'))
local macro_rules | `(tactic| walk_at "getMethod ref") => `(tactic| (k_here; (with_reducible show wpAny _ _ (getMethod (Value.ref _) (PySem.Str.ofString "search") _) _ _ _); k_dflt (refine' search_meth ?k1 ?k2 ?_; (case k1 => k_in); (case k2 => first | exact Or.inl rfl | exact Or.inr rfl); k_whole)))
local macro_rules | `(tactic| walk_at "call builtin:re.Pattern.search") => `(tactic| (k_here; (with_reducible show wpAny _ _ (call (Value.builtin "re.Pattern.search") [Value.ref _, Value.str _ _]) _ _ _); k_dflt (refine' search_none ?k1 ?k2 ?k3 ?_; (case k1 => k_in); (case k2 => first | exact Or.inl rfl | exact Or.inr rfl); (case k3 => assumption); k_whole)))
local macro_rules | `(tactic| k_room) => `(tactic| ktr_room)
local macro_rules | `(tactic| ktn_open) => `(tactic| first | exact agree_base (by assumption) | (refine' agree_step ?q1 ?q2 ?q3; (case q1 => assumption); (case q2 => decide +kernel); (case q3 => ktn_open)) | (refine' agree_in ?q1 ?q2 ?q3; (case q1 => assumption); (case q2 => decide +kernel); (case q3 => ktn_open)) | (dsimp only; ktn_open))
local macro_rules | `(tactic| k_mem) => `(tactic| (refine mem_of ?_; ktr_member))
local macro_rules | `(tactic| k_all) => `(tactic| first | assumption | (refine' off_rest ?q1 ?q2; (case q1 => first | assumption | exact restLt_of (by assumption)); (case q2 => (try dsimp only); omega)))
local macro_rules | `(tactic| walk_at "eval ListComp") => `(tactic| (k_here; refine Hold.out ?_))
local macro_rules | `(tactic| walk_at "call ref") => `(tactic| (k_here; (with_reducible show wpAny _ _ (call (Value.ref 110) [Value.ref _, Value.str _ _]) _ _ _); k_dflt (refine' del_c ?k1 ?k2 ?k3 ?k4 ?k5 ?k6 ?k7 ?k8 ?k9 ?k10 ?k11 ?k12 ?k13 ?_; (case k1 => k_asm); (case k2 => k_asm); (case k3 => k_asm); (case k4 => k_asm); (case k5 => first | exact rfl | assumption); (case k8 => k_asm); (case k9 => k_asm); (case k10 => k_asm); (case k11 => k_asm); (case k12 => k_asm); (case k13 => k_asm); (case k6 => ktr_room); (case k7 => ktr_units)); intro v' nn' h' tk' F' N'; (try k_sweep)))
local macro_rules | `(tactic| walk_at "delItem ref") => `(tactic| (k_here; (with_reducible show wpAny _ _ (delItem (Value.ref _) _) _ _ _); k_dflt (refine' delItem_own ?F ?X ?I ?hQ ?hS ?hF ?_; (case F => k_asm); (case X => k_asm); (case I => k_inst); (case hS => k_is); (case hF => k_is); (case hQ => k_is); k_whole)))
local macro_rules | `(tactic| walk_at "call builtin:list.append") => `(tactic| (k_here; (with_reducible show wpAny _ _ (call (Value.builtin _) [Value.ref _, _]) _ _ _); k_dflt (refine' append_K ?k1 ?k2 ?k3 ?_ ?z; (case k1 => k_asm); (case k2 => k_asm); (case k3 => k_upd); (case z => assumption); k_whole); intro h' F' N'; (try k_sweep)))
local macro_rules | `(tactic| walk_at "exec For Name Call cons nil") => `(tactic| (k_here; refine Hold.out ?_))
local macro_rules | `(tactic| walk_at "exec For Tuple Name cons nil") => `(tactic| (k_here; refine Hold.out ?_))
local macro_rules | `(tactic| walk_at "exec For Tuple Attribute cons nil") => `(tactic| (k_here; refine Hold.out ?_))
local macro_rules | `(tactic| walk_at "exec While UnaryOp cons nil") => `(tactic| (k_here; refine Hold.out ?_))
local macro_rules | `(tactic| walk_at "exec While Compare cons nil") => `(tactic| (k_here; refine Hold.out ?_))
local macro_rules | `(tactic| walk_at "pyIter ref") => `(tactic| (k_here; (with_reducible show wpAny _ _ (pyIter (Value.ref _)) (fun it s₂ => LoopAtV _ _ _ _ _ _ _ _ _ it s₂) _ _); refine Hold.out ?_))
theorem off_PL : True := by
  w_top off
  trivial
local macro_rules | `(tactic| walk_at "binaryOp Mod str int") => `(tactic| (refine pct_d (by assumption) (by assumption) ?_; intro _ _))
local macro_rules | `(tactic| walk_at "compareOp Eq ref ref") => `(tactic| (refine Hold.out ?_))
local macro_rules | `(tactic| walk_at "subscriptTail") => `(tactic| ((with_reducible show wpAny _ _ (subscriptTail (Expr.List _ _) _ _ _) _ _ _); refine Hold.out ?_))
local macro_rules | `(tactic| walk_at "subscriptTail Name Slice ref ref") => `(tactic| ((with_reducible show wpAny _ _ (subscriptTail _ (Expr.Slice (some _) (some _) _ _) _ _) _ _ _); refine Hold.out ?_))
local macro_rules | `(tactic| walk_at "call builtin:len") => `(tactic| (refine Hold.out ?_))
local macro_rules | `(tactic| walk_at "subscriptTail List Slice ref ref") => `(tactic| (refine Hold.out ?_))
local macro_rules | `(tactic| walk_at "binaryOp Add ref ref") => `(tactic| (refine Hold.out ?_))
local macro_rules | `(tactic| walk_at "CompSrc") => `(tactic| (refine Hold.out ?_))
local macro_rules | `(tactic| walk_at "exec Assign cons ListComp") => `(tactic| (k_here; refine Hold.out ?_))
local macro_rules | `(tactic| walk_at "call ref") => `(tactic| (k_here; (show wpAny _ _ (call (Value.ref 201) _ _) _ _ _); refine Hold.out ?_))
local macro_rules | `(tactic| walk_at "call ref") => `(tactic| (k_here; (show wpAny _ _ (call (Value.ref 220) _ _) _ _ _); refine Hold.out ?_))
local macro_rules | `(tactic| walk_at "call ref") => `(tactic| (k_here; (show wpAny _ _ (call (Value.ref 225) _ _) _ _ _); refine Hold.out ?_))
local macro_rules | `(tactic| walk_at "call ref") => `(tactic| (k_here; (show wpAny _ _ (call (Value.ref 208) _ _) _ _ _); refine Hold.out ?_))
theorem law_holds : PySem.Challenge.rw_we0022_01.Holds := hd (by
  w_strict (
    k_fill
    intro w s₀ s₁ mg mb G Y fa o pm cd doc dV kV ho hf hcd hD hmg hg args vals as hpre hlay hrd hwl hlo
    have KX := kIn_of Y
    have X := (Ground.X G).1
    have V := (Ground.X G).2
    refine Ground.open G ?_
    intro T B D TE TW
    try (refine guard_noD D (by decide +kernel) ?_; clear D)
    obtain ⟨_, _, M⟩ := bmod_of_top T
    have TA := at_of_top T
    try (obtain ⟨_, _, he, B0⟩ := based_of_top T rfl hmg ho hf; have he' : cd = _ := he; subst he'; clear he)
    clear hmg
    wrow_args hpre hlay hrd hwl hlo
    all_goals (
      first | refine callC_kw (enter_call ?_) | refine enter_call ?_ | refine callC_kw (enter_callW ?_) | refine enter_callW ?_ | w_how
      w_top on
      have K0 := below_caller (Top.heap T)
      w_call any ho hf hcd hD T F
      clear hf TA
      k_drop
      skip)
    all_goals (try k_fold)
    (rename List Int => scr)
    k_steps
    all_goals (try k_data)
    refine Hold.mk ?_
    k_dflt (refine LCg.Assign_ListComp_U (F₀ := by k_asm) (by rfl) (by with_unfolding_all rfl) (by rfl) (by decide) (by rfl) (by decide) (by rfl) (by rfl) (by rfl) ?_)
    k_steps
    all_goals (try k_data)
    refine Hold.mk ?_
    (with_reducible rename Fr _ _ _ _ => F2)
    (with_reducible rename News _ _ _ _ => N2)
    (rename IntsAre _ (List.take 5 _) => i2)
    refine LCg.CompSrc.ledger rfl F2 N2 (.head _) ?hsz ?rest
    case hsz =>
      rw [List.size_toArray, i2.length, List.length_take, sizeLine_eq]
      omega
    case rest =>
      intro g2
      refine rest_ints (fun x => x.fmod 1000000) i2 (.inr ⟨_, .head _, rfl, _, rfl⟩) (by rw [List.size_toArray, i2.length]) arr_get ?_ ?_
      · intro k t I oI C oC D ys m₂ h tk E' hC hx F3 N3
        clear F2 N2
        k_steps
        all_goals (try k_data)
        exact ⟨⟨_, rfl⟩, _, _, rfl, fun _ _ e => e⟩
      · intro ys i3 D h tk F3 N3 o3
        clear F2 N2
        obtain ⟨dr, edr⟩ : ∃ dr, dr = List.map (fun x => Int.fmod x 1000000) (List.take 5 scr) := ⟨_, rfl⟩
        rw [← edr] at i3
        have hdl : dr.length ≤ 5 := by rw [edr, List.length_map, List.length_take]; omega
        have hdp : ∀ x ∈ dr, 0 ≤ x := fun x hx => by
          rw [edr] at hx
          obtain ⟨y, _, rfl⟩ := List.mem_map.mp hx
          exact Int.fmod_nonneg_of_pos _ (by decide)
        have hsz : ys.toArray.size = dr.length := by rw [List.size_toArray, i3.length]
        have hfit : dr.length < 2 ^ 62 := Nat.lt_of_le_of_lt hdl (by decide)
        k_steps
        all_goals (try k_data)
        refine Hold.mk ?_
        (with_reducible rename News _ _ _ _ => N4)
        refine KM.len_K (n := dr.length) N4 (.tail _ (.head _)) hsz (by omega) ?_
        walk1
        walk1
        (with_reducible rename Fr _ _ _ _ => F4)
        k_dflt (refine' slice_temp ?sF ?sN ?sl ?sp ?sq ?ss ?st ?sz)
        case sF => exact F4
        case sN => exact N4
        case sl => exact news_list N4 (.head _)
        case sp => exact IsPart.int _ _
        case sq => exact IsPart.none
        case st => with_unfolding_all rfl
        case sz => rw [sizeLine_eq]; exact Nat.le_of_ble_eq_true rfl
        intro D2 h2 F5 N5 l5
        rw [slicePick_from _ _ (by exact hdl)] at N5
        clear F4 N4
        have i5 := tail5 (t1 := tk) (t2 := tk + 1) (t3 := tk + 1 + 1) (t4 := tk + 1 + 1 + 1) (t5 := tk + 1 + 1 + 1 + 1) dr.length
        k_dflt (refine' kmk_add_ints ?sF ?sN ?sa ?sb ?si ?sj ?sh ?sz)
        case sF => exact F5
        case sN => exact N5
        case sa => exact news_list N5 (.tail _ (.tail _ (.head _)))
        case sb => exact news_list N5 (.head _)
        case si => exact i3
        case sj => exact i5
        case sz =>
          rw [List.length_drop, sizeLine_eq]
          simp
          omega
        case sh =>
          intro D3 us h7 F7 N7 l7 hus
          clear F5 N5
          obtain ⟨c0, c1, c2, c3, c4, ecs, hc⟩ : ∃ c0 c1 c2 c3 c4, dr ++ List.drop dr.length [1, 1, 2, 0, 3] = [c0, c1, c2, c3, c4] ∧ (0 ≤ c0 ∧ 0 ≤ c1 ∧ 0 ≤ c2 ∧ 0 ≤ c3 ∧ 0 ≤ c4) := cells_five hdl hdp
          rw [ecs] at hus
          clear ecs hdp hdl edr i2 i3 i5 hsz hfit
          replace N7 : News s₁.heap s₁.heap.objs.size h7 [_, _] := fun q hq => N7 q (by
            rcases List.mem_cons.mp hq with rfl | hq
            · exact .head _
            · exact .tail _ (.tail _ (.tail _ (.tail _ (.tail _ hq)))))
          k_steps
          all_goals (try k_data)
          refine Hold.mk ?_
          k_dflt (refine LCg.Assign_ListComp_U (F₀ := by k_asm) (by rfl) (by with_unfolding_all rfl) (by rfl) (by decide) (by rfl) (by decide) (by rfl) (by rfl) (by rfl) ?_)
          k_steps
          all_goals (try k_data)
          refine Hold.mk ?_
          (with_reducible rename Fr _ _ _ _ => F8)
          (with_reducible rename News _ _ _ _ => N8)
          have hm4 : 0 ≤ c0.fmod 4 ∧ c0.fmod 4 ≤ 3 := ⟨Int.fmod_nonneg_of_pos _ (by decide), Int.le_of_lt_add_one (Int.fmod_lt_of_pos _ (by decide))⟩
          k_dflt (refine' kmk_slice ?yF ?yN ?yl ?yp ?yq ?ys ?yt ?yw ?yz)
          case yF => exact F8
          case yN => exact N8
          case yl => exact news_list N8 (.head _)
          case yp => exact IsPart.int _ _
          case yq => exact IsPart.int _ _
          case yt => with_unfolding_all rfl
          case yw => kmk_pure
          case yz => rw [List.size_toArray, hus.length, sizeLine_eq]; exact Nat.le_of_ble_eq_true rfl
          intro D4 h4 F9 N9 l9
          change News _ _ h4 [(D4, listOf (slicePick us.toArray (some 1) (some (2 + c0.fmod 4)) none) 0), _, _] at N9
          rw [pick_five hus hm4] at N9
          have hut := (hus.drop 1).take (c0.fmod 4 + 1).toNat
          clear F8 N8
          refine LCg.CompSrc.ledger rfl F9 N9 (.head _) ?hsy ?resy
          case hsy =>
            rw [List.size_toArray, hut.length, List.length_take, sizeLine_eq]
            simp
            omega
          case resy =>
            intro g3
            refine rest_ints (fun x => 1 + x.fmod 5) hut (.inr ⟨_, .head _, rfl, _, rfl⟩) (by rw [List.size_toArray, hut.length]) arr_get ?_ ?_
            · intro k t I oI C oC D ys m₂ h tk E' hC hx F3 N3
              clear F9 N9
              k_steps
              all_goals (try k_data)
              exact ⟨⟨_, rfl⟩, _, _, rfl, fun _ _ e => e⟩
            · intro sv isv D5 h5 tk5 F3 N3 o5
              clear F9 N9
              obtain ⟨ss, ess⟩ : ∃ ss, ss = List.map (fun x => 1 + Int.fmod x 5) (List.take (c0.fmod 4 + 1).toNat (List.drop 1 [c0, c1, c2, c3, c4])) := ⟨_, rfl⟩
              rw [← ess] at isv
              have hsl : 0 < ss.length ∧ ss.length ≤ 4 := by
                rw [ess, List.length_map, List.length_take]
                simp
                omega
              have hsb : ∀ x ∈ ss, 1 ≤ x ∧ x ≤ 5 := fun x hx => by
                rw [ess] at hx
                obtain ⟨y, _, rfl⟩ := List.mem_map.mp hx
                have h1 := Int.fmod_nonneg_of_pos y (show (0 : Int) < 5 by decide)
                have h2 := Int.fmod_lt_of_pos y (show (0 : Int) < 5 by decide)
                omega
              clear hut ess
              have N4 := news_drop2 N3
              clear N3
              k_steps
              all_goals (try k_data)
              refine Hold.mk ?_
              (with_reducible rename Fr _ _ _ _ => F11)
              (with_reducible rename News _ _ _ _ => N11)
              have hb : 0 ≤ (c0.fdiv 4).fmod 3 ∧ (c0.fdiv 4).fmod 3 ≤ 2 := ⟨Int.fmod_nonneg_of_pos _ (by decide), Int.le_of_lt_add_one (Int.fmod_lt_of_pos _ (by decide))⟩
              obtain ⟨lx, tv, tn, hx, mx, hi⟩ := tail_pick N11 hb
              refine item_listR (x := .ref lx) (news_list N11 (.head _)) (show 0 ≤ (c0.fdiv 4).fmod 3 from hb.1) (show (c0.fdiv 4).fmod 3 < 2 ^ 63 from Int.lt_of_le_of_lt hb.2 (by decide)) hx ?_
              k_dflt (refine' kmk_add_ints ?zF ?zN ?za ?zb ?zi ?zj ?zh ?zz)
              case zF => exact F11
              case zN => exact N11
              case za => exact news_list N11 (.tail _ (.tail _ (.tail _ (.tail _ (.head _)))))
              case zb => exact news_list N11 mx
              case zi => exact isv
              case zj => exact hi
              case zz =>
                have := tlB_le ((c0.fdiv 4).fmod 3)
                rw [sizeLine_eq]
                omega
              case zh =>
                intro D6 rv h6 F12 N12 l12 hrv
                clear F11
                k_steps
                all_goals (try k_data)
                refine Hold.mk ?_
                (with_reducible rename Fr _ _ _ _ => F13)
                (with_reducible rename News _ _ _ _ => N13)
                have N14 := news_keep3 N13
                clear N13
                k_dflt (refine' marks_c (ss := ss) (tl := tlB ((c0.fdiv 4).fmod 3)) ?kB ?kF ?kX ?kT ?kk ?kd ?ku ?kb ?kN ?km ?ki ?kl ?k1 ?k2 ?kr)
                case kB => exact K0
                case kF => exact F13
                case kX => exact KX
                case kT => exact T
                case kk => exact rfl
                case kd => ktr_room
                case ku => ktr_units
                case kb => exact AllBare.of_eq hg
                case kN => exact N14
                case km => exact .head _
                case ki => exact hrv
                case kl => exact hsl
                case k1 => exact hsb
                case k2 => exact tlB_ok _
                case kr =>
                  intro r vs nn s' F15 N15 o15 ivs hbare hdr hos
                  clear F13 N14
                  k_steps
                  all_goals (try k_data)
                  refine Hold.mk ?_
                  (with_reducible rename Fr _ _ _ _ => F16)
                  (with_reducible rename News _ _ _ _ => N16)
                  k_dflt (refine' numbers_c (ss := ss) (b := (c0.fdiv 4).fmod 3) ?nB ?nF ?nX ?nT ?nk ?nd ?nu ?nN ?nm ?ni ?nl ?n1 ?nr)
                  case nB => exact K0
                  case nF => exact F16
                  case nX => exact KX
                  case nT => exact T
                  case nk => exact rfl
                  case nd => ktr_room
                  case nu => ktr_units
                  case nN => exact N16
                  case nm => exact .tail _ (.tail _ (.head _))
                  case ni => exact isv
                  case nl => exact hsl
                  case n1 => exact hsb
                  case nr =>
                    intro rn nvs ncap h17 tk17 F17 N17 o17 inv
                    clear F16 N16
                    have N18 := news_cell N17
                    have o18 := off_cell N17 o15 o17
                    clear N17
                    k_steps
                    all_goals (try k_data)
                    refine Hold.mk ?_
                    (with_reducible rename Fr _ _ _ _ => F19)
                    (with_reducible rename News _ _ _ _ => N19)
                    k_dflt (refine LCg.Assign_ListComp_U F19 (by rfl) (by with_unfolding_all rfl) (by with_unfolding_all rfl) (by decide) (by rfl) (by decide) (by rfl) (by rfl) (by rfl) ?_)
                    k_steps
                    all_goals (try k_data)
                    refine Hold.mk ?_
                    (with_reducible rename Fr _ _ _ _ => F20)
                    (with_reducible rename News _ _ _ _ => N20)
                    (with_reducible rename IsRange _ _ _ _ _ _ _ _ => hrg)
                    (rename IntsAre nvs _ => inu)
                    (rename Obj.data _ = Data.cell (some (Value.ref rn)) => hcell)
                    obtain ⟨ns, ens⟩ : ∃ ns, ns = numsT ss ((c0.fdiv 4).fmod 3) 12 [1] := ⟨_, rfl⟩
                    rw [← ens] at inu
                    have hnl : ns.length ≤ 13 := by rw [ens]; exact (nums_facts ss _).1
                    have hn1 : 1 ∈ ns := by rw [ens]; exact (nums_facts ss _).2
                    refine LCg.CompSrc.range (n := 12) rfl F20 N20 hrg (by decide +kernel) (by decide +kernel) (by rw [sizeLine_eq]; decide) ?_
                    intro g4
                    refine rest_rows (ts := dueT ns) (by rw [due_len]) ?_ ?_
                    · intro i t I oI C oC D7 ys7 m₂ h8 tk8 nx E' hi hC hx F21 N21
                      clear F20 N20 hrg
                      rw [due_len] at hi
                      rw [due_get hi]
                      obtain ⟨ex, eex, mce, mne⟩ := ex_mem N21
                      rw [← eex] at N21 ⊢
                      clear eex
                      k_steps
                      all_goals (try k_data)
                      refine Hold.mk ?_
                      (with_reducible rename Fr _ _ _ _ => F22)
                      (with_reducible rename News _ _ _ _ => N22)
                      k_dflt (refine' least_c (ns := ns) (k := 1 + (i : Int)) ?lB ?lF ?lX ?lT ?lk ?ld ?lu ?lN ?lm ?li ?ll ?l1 ?l2 ?l3 ?lr)
                      case lB => exact K0
                      case lF => exact F22
                      case lX => exact KX
                      case lT => exact T
                      case lk => exact rfl
                      case ld => ktr_room
                      case lu => ktr_units
                      case lN => exact N22
                      case lm => exact .tail _ (.tail _ (.tail _ mne))
                      case li => exact inu
                      case ll => exact hnl
                      case l1 => exact hn1
                      case l2 => omega
                      case l3 => omega
                      case lr =>
                        intro t9 h9 tk9 F23 N23 I23
                        clear F22 N22
                        have hlb := least_bounds hn1 12 (1 + (i : Int)) (by omega)
                        have hlb1 : 1 ≤ leastT ns 12 (1 + (i : Int)) := hlb.1
                        have hlb2 : leastT ns 12 (1 + (i : Int)) ≤ 12 := by omega
                        k_steps
                        all_goals (try k_data)
                        (with_reducible rename Fr _ _ _ _ => F24)
                        (with_reducible rename News _ _ _ _ => N24)
                        (rename I < _ ∧ C < _ ∧ _ => l24)
                        have hL : Txt.item (Str.ofString "abcdefghijkl") (1 + (i : Int) - 1) = loL i := by
                          have := item_lo i hi
                          have e : (1 + (i : Int) - 1) = (i : Int) := by omega
                          rw [e]; exact this
                        rw [hL] at N24
                        exact RowEnd.mk ⟨_, _, _, _, _, _, rfl, rfl, F24, N24, off_cons (Nat.ne_of_lt l24.1) (off_cons (Nat.ne_of_lt l24.2.1) (off_cons (Nat.ne_of_lt l24.2.2.1) (lt_all l24.2.2.2)))⟩
                    · intro ys7 nx hda D7 h8 tk8 F21 N21 o21
                      clear F20 N20 hrg
                      dsimp only
                      k_steps
                      all_goals (try k_data)
                      refine Hold.mk ?_
                      (with_reducible rename Fr _ _ _ _ => F22)
                      (with_reducible rename News _ _ _ _ => N22)
                      have hml : (marksT ss (tlB ((c0.fdiv 4).fmod 3))).length = 12 := marks_len hsl.2 _
                      have hmb := marks_bounds hsl hsb (tlB ((c0.fdiv 4).fmod 3))
                      k_dflt (refine' played_c (ms := marksT ss (tlB ((c0.fdiv 4).fmod 3))) ?pB ?pF ?pX ?pT ?pk ?pd ?pu ?pN ?pm ?pi ?pl ?p1 ?pr)
                      case pB => exact K0
                      case pF => exact F22
                      case pX => exact KX
                      case pT => exact T
                      case pk => exact rfl
                      case pd => ktr_room
                      case pu => ktr_units
                      case pN => exact N22
                      case pm => exact .tail _ (List.mem_append_right _ (.tail _ (.tail _ (.head _))))
                      case pi => assumption
                      case pl => exact hml
                      case p1 => exact hmb
                      case pr =>
                        intro r2 vs2 nn2 tl2 h9 tk9 F23 N23 hda2
                        clear F22 N22
                        k_steps
                        all_goals (try k_data)
                        refine Hold.mk ?_
                        have hplay : playT (marksT ss (tlB ((c0.fdiv 4).fmod 3))) 12 = dueT ns := by rw [ens]; exact plain hsl hsb
                        rw [hplay] at hda2
                        refine kqd_eq N23 (.head _) rfl rfl hda2 (fun p hp => .tail _ (List.mem_append_left _ hp)) (.tail _ (List.mem_append_right _ (.head _))) rfl rfl hda (fun p hp => .tail _ (List.mem_append_right _ (.tail _ (List.mem_append_left _ hp)))) (rows_ok (due_len ns) (due_bounds hn1)) (rows_ok (due_len ns) (due_bounds hn1)) (by ktr_units) ?_
                        simp only [eq_self, decide_true]
                        dsimp only [qk]
                        refine ⟨.inl ⟨.bool true, .bool true, [], rfl, ?e1, ?e2, ?e3, ?e4⟩, OldK.of_keep F23.keep, hos, hbare⟩
                        case e1 => exact raisesW_false (by wrow_none_raised)
                        case e2 => exact readsW_of_reads (Reads.bool true)
                        case e3 => exact postW_of (by wrow_shape) (by wtm_val) (by str_meet; first | done | w_fin)
                        case e4 => exact unshared_nil))
end
end Mine
theorem PySem.Challenge.cw_we0022_01_holds : PySem.Challenge.rw_we0022_01.Holds :=
  Mine.law_holds
