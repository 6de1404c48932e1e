import PyProof.Rows.All
import Wide.All
import OpenK.AllK
import Wide.FinOn
import PySem.Challenge.RW_re0031_01
set_option Elab.async false
set_option maxRecDepth 100000
set_option maxHeartbeats 8000000

-- Hd
section
open PySem PySem.W PyProof.Rows
namespace Mine
open_top hd for PySem.Challenge.rw_re0031_01
end Mine
end

-- Base
section
open PySem PySem.W PyProof.Rows in
theorem Mine.resetBase : True ∧ True := by
  w_top off
  walk1
  all_goals exact True.intro
end
section
open PySem PySem.W PyProof.Rows PySem.Calls PySem.Spec
namespace Mine
abbrev prog : Program := Challenge.rw_re0031_01.row.prog
abbrev NoE : Value → Shared → Prop := fun _ _ => False

section
variable {prog : Program} {w : World} {A : Around} {s : Shared} {env : Env} {h₀ : Heap}

/-- what a turn hands on -/
def TurnG (h₀ : Heap) (L : Addr) (J : (PySem.Str → Option Value) → List (Addr × Obj) → Prop) (own : List (Addr × Obj)) (s₁ : Shared) (Q : Flow → Shared → Prop) (f : Flow) (s₂ : Shared) : Prop :=
  match f with
  | .ret v => Q (.ret v) s₂
  | .brk => Q .next s₂
  | _ => ∃ h' tk m' nx, s₂ = { s₁ with heap := h', toks := tk } ∧ Fr h₀ L h' m' ∧ News h₀ L h' (nx ++ own) ∧ OwnOff own (nx.map (·.1)) ∧ J m' nx

theorem loopG {Q : Flow → Shared → Prop} {target : Expr} {body orelse : List Stmt} {I : Addr} {fp wr : List Addr} {n : Nat} {P : Nat → Value → Prop} {St : Nat → Heap → Prop} {m : PySem.Str → Option Value}
    {news : List (Addr × Obj)} (W : Walks prog w A I fp wr n P St)
    (hLf : env.locals ∉ fp) (hwr : ∀ b ∈ wr, h₀.get? b = none) (hlive : ∀ b ∈ fp, ∀ {i h}, St i h → h.get? b = none → False)
    (hst : St 0 s.heap) (F : Fr h₀ env.locals s.heap m) (N : News h₀ env.locals s.heap news) (hoff : ∀ p ∈ news, p.1 ∉ fp)
    (J : Nat → (PySem.Str → Option Value) → List (Addr × Obj) → Prop) (h0 : J 0 m news)
    (step : ∀ i v m₁ news₁ h tk own, i < n → P i v → J i m₁ news₁ → OwnOff own (news₁.map (·.1)) → (∀ p ∈ own, p.1 ∈ fp) → (∀ b ∈ fp, h₀.get? b = none → ∀ o, h.get? b = some o → (b, o) ∈ own) → St (i + 1) h →
      Fr h₀ env.locals h m₁ → News h₀ env.locals h (news₁ ++ own) →
      wpAny (model prog w) A (assign target env v) (fun _ s₂ => wpAny (model prog w) A (execs body env) (TurnG h₀ env.locals (J (i + 1)) own { s with heap := h, toks := tk } Q) NoE s₂) NoE { s with heap := h, toks := tk })
    (done : ∀ h' tk m' news', Fr h₀ env.locals h' m' → News h₀ env.locals h' news' → J n m' news' → (∀ b o, b ∈ fp → b ∉ wr → s.heap.get? b = some o → h'.get? b = some o) → wpAny (model prog w) A (execs orelse env) Q NoE { s with heap := h', toks := tk })
    (ht : ∀ v, letOwnedTupleGo target (.ref I) v = pure () := by intro _; rfl) :
    codeAny (model prog w) A (.forLoop target (.ref I) body orelse env) (fun r s' => match r with | .ok f => Q f s' | .error e => cameBackBy (model prog w) A env NoE e s') s := by
  have hLw : env.locals ∉ wr := fun h => hLf (W.sub _ h)
  have old : ∀ b o, h₀.get? b = some o → b ∉ wr := fun b o e hb => by rw [hwr b hb] at e; cases e
  have toE : ∀ {α : Type} {t : Sem α} {Q' : α → Shared → Prop} {s' : Shared}, wpAny (model prog w) A t Q' NoE s' → wpAny (model prog w) A t Q' (notedBy (model prog w) A env fun e s' => cameBackBy (model prog w) A env NoE e s') s' :=
    fun h => wpAny_mono h (fun _ _ x => x) fun _ _ x => x.elim
  refine codeAny_forLoop (R := fun r s' => match r with | .ok f => Q f s' | .error e => cameBackBy (model prog w) A env NoE e s')
    (fun k s' => ∃ h' tk m' news' i, s' = { s with heap := h', toks := tk } ∧ St i h' ∧ Fr h₀ env.locals h' m' ∧ News h₀ env.locals h' news' ∧ (∀ p ∈ news', p.1 ∉ fp) ∧ J i m' news' ∧ i ≤ n ∧ k = n + 1 - i ∧ (∀ b o, b ∈ fp → b ∉ wr → s.heap.get? b = some o → h'.get? b = some o)) ?_ (n + 1)
    ⟨s.heap, s.toks, m, news, 0, rfl, hst, F, N, hoff, h0, Nat.zero_le _, rfl, fun _ _ _ _ e => e⟩ ht
  rintro k s' ⟨h', tk, m', news', i, rfl, hst', F', N', hoff', hJ, hi, rfl, hfx⟩
  have next : ∀ h₁ : Heap, (∀ b o, b ∉ wr → h'.get? b = some o → h₁.get? b = some o) → Fr h₀ env.locals h₁ m' ∧ News h₀ env.locals h₁ news' := fun h₁ hk₁ =>
    ⟨⟨F'.ns.at' fun o e => hk₁ _ o hLw e, fun b o e => hk₁ b o (old b o e) (F'.keep b o e), F'.above⟩, fun p hp => ⟨hk₁ _ _ (fun q => hoff' p hp (W.sub _ q)) (N' p hp).1, (N' p hp).2⟩⟩
  by_cases hlt : i < n
  · refine W.item i _ _ _ hlt hst' fun v h₁ tk₁ hP hst₁ hk₁ => ?_
    obtain ⟨F₁, N₁⟩ := next h₁ hk₁
    have Nown : News h₀ env.locals h₁ (ownOf h₀ fp h₁) := news_ownOf hLf
    have hO : OwnOff (ownOf h₀ fp h₁) (news'.map (·.1)) := by
      intro p hp b hb e
      obtain ⟨q, hq, rfl⟩ := List.mem_map.mp hb
      exact hoff' q hq (e ▸ ownOf_sub p hp)
    have NN : News h₀ env.locals h₁ (news' ++ ownOf h₀ fp h₁) := fun p hp => (List.mem_append.mp hp).elim (N₁ p) (Nown p)
    refine toE (wpAny_mono (step i v m' news' h₁ tk₁ (ownOf h₀ fp h₁) hlt hP hJ hO ownOf_sub (fun b hb hn o e => mem_ownOf hb hn e) hst₁ F₁ NN)
      (fun _ s₂ h₂ => toE (wpAny_mono h₂ (fun f s₃ h₃ => ?_) fun _ _ e => e)) fun _ _ e => e)
    have fin : (∃ h' tk m' nx, s₃ = { s with heap := h', toks := tk } ∧ Fr h₀ env.locals h' m' ∧ News h₀ env.locals h' (nx ++ ownOf h₀ fp h₁) ∧ OwnOff (ownOf h₀ fp h₁) (nx.map (·.1)) ∧ J (i + 1) m' nx) →
        ∃ k, k < n + 1 - i ∧ ∃ h' tk m' news' i, s₃ = { s with heap := h', toks := tk } ∧ St i h' ∧ Fr h₀ env.locals h' m' ∧ News h₀ env.locals h' news' ∧ (∀ p ∈ news', p.1 ∉ fp) ∧ J i m' news' ∧ i ≤ n ∧ k = n + 1 - i ∧ (∀ b o, b ∈ fp → b ∉ wr → s.heap.get? b = some o → h'.get? b = some o) := by
      clear h₃
      rintro ⟨h₄, tk₃, m₂, nx, rfl, F₃, N₃, ho, hJ₃⟩
      refine ⟨n + 1 - (i + 1), by omega, h₄, tk₃, m₂, nx, i + 1, rfl, ?_, F₃, fun p hp => N₃ p (List.mem_append_left _ hp), ?_, hJ₃, hlt, rfl, ?_⟩
      · refine W.frame _ _ _ hst₁ fun b hb o e => ?_
        cases hn : h₀.get? b with
        | some o₀ =>
          have : o₀ = o := by have := F₁.keep b o₀ hn; rw [e] at this; exact (Option.some.inj this).symm
          exact this ▸ F₃.keep b o₀ hn
        | none => exact (N₃ _ (List.mem_append_right _ (mem_ownOf hb hn e))).1
      · intro p hp hb
        cases hn : h₀.get? p.1 with
        | some o₀ =>
          have := (N₃ p (List.mem_append_left _ hp)).2.2
          rw [hn] at this; cases this
        | none =>
          cases hq : h₁.get? p.1 with
          | some o => exact ho _ (mem_ownOf hb hn hq) p.1 (List.mem_map_of_mem hp) rfl
          | none => exact (hlive p.1 hb hst₁ hq).elim
      · intro b o hb hw e
        have e₁ : h₁.get? b = some o := hk₁ b o hw (hfx b o hb hw e)
        cases hn : h₀.get? b with
        | some o₀ =>
          have : o₀ = o := by have := F₁.keep b o₀ hn; rw [e₁] at this; exact (Option.some.inj this).symm
          exact this ▸ F₃.keep b o₀ hn
        | none => exact (N₃ _ (List.mem_append_right _ (mem_ownOf hb hn e₁))).1
    cases f with
    | ret v => exact h₃
    | brk => exact h₃
    | next => exact fin h₃
    | cont => exact fin h₃
  · have hin : i = n := by omega
    subst hin
    refine W.done _ _ _ hst' fun h₁ tk₁ hk₁ => toE ?_
    obtain ⟨F₁, N₁⟩ := next h₁ hk₁
    exact done h₁ tk₁ m' news' F₁ N₁ hJ fun b o hb hw e => hk₁ b o hw (hfx b o hb hw e)

theorem iterRange {Q : Flow → Shared → Prop} {target : Expr} {body orelse : List Stmt} {r : Addr} {a b : Int} {t u v : Tok} {n : Nat} {m : PySem.Str → Option Value} {news : List (Addr × Obj)}
    (hh : A.handled = none) (hr : IsRange s.heap r a b 1 t u v) (hsmall : Builtin.Range.small a b 1 = true) (hn : Builtin.Range.rangeSize a b 1 = (n : Int))
    (F : Fr h₀ env.locals s.heap m) (N : News h₀ env.locals s.heap news)
    (J : Nat → (PySem.Str → Option Value) → List (Addr × Obj) → Prop) (h0 : J 0 m news)
    (step : ∀ (i : Nat) t m₁ news₁ h tk own, i < n → J i m₁ news₁ → OwnOff own (news₁.map (·.1)) → Fr h₀ env.locals h m₁ → News h₀ env.locals h (news₁ ++ own) →
      wpAny (model prog w) A (assign target env (.int (a + (i : Int)) t)) (fun _ s₂ => wpAny (model prog w) A (execs body env) (TurnG h₀ env.locals (J (i + 1)) own { s with heap := h, toks := tk } Q) NoE s₂) NoE { s with heap := h, toks := tk })
    (done : ∀ h' tk m' news', Fr h₀ env.locals h' m' → News h₀ env.locals h' news' → J n m' news' → wpAny (model prog w) A (execs orelse env) Q NoE { s with heap := h', toks := tk })
    (ht : ∀ I v, letOwnedTupleGo target (.ref I) v = pure () := by intro _ _; rfl) :
    wpAny (model prog w) A (pyIter (.ref r)) (fun it s₂ => codeAny (model prog w) A (.forLoop target it body orelse env) (fun r s' => match r with | .ok f => Q f s' | .error e => cameBackBy (model prog w) A env NoE e s') s₂) NoE s := by
  refine wpAny_pyIter_range hr hsmall ?_
  have hnew : ∀ p ∈ news, p.1 ∉ [s.heap.objs.size] := fun p hp hI => absurd (Heap.lt_size (N p hp).1) ((List.mem_singleton.mp hI) ▸ Nat.lt_irrefl _)
  refine loopG (s := { s with heap := s.heap.push _ }) (Walks.range hh s.heap.objs.size a 1 n) ?_ ?_ ?_ (by show IsRangeIter _ _ _ _ _; rw [hn]; simpa using Heap.get?_push_size _ rfl) (F.push _) (fun p hp => ⟨Heap.get?_push_of_some _ (N p hp).1, (N p hp).2⟩) hnew J h0 ?_ (fun h' tk m' news' a b c _ => done h' tk m' news' a b c) (ht _)
  · intro hm
    exact absurd F.ns.lt ((List.mem_singleton.mp hm) ▸ Nat.lt_irrefl _)
  · intro b hb
    rw [List.mem_singleton.mp hb]
    exact next_is_new F
  · intro b hb i h st e
    rw [List.mem_singleton.mp hb] at e
    have := (show h.get? s.heap.objs.size = some _ from st)
    rw [this] at e; cases e
  · rintro i v m₁ news₁ h tk own hi ⟨t, rfl⟩ hJ ho _ _ _ F₁ N₁
    rw [Int.mul_one]
    exact step i t m₁ news₁ h tk own hi hJ ho F₁ N₁

theorem iterList {Q : Flow → Shared → Prop} {target : Expr} {body orelse : List Stmt} {l : Addr} {vs : List Value} {m : PySem.Str → Option Value} {news : List (Addr × Obj)}
    (hh : A.handled = none) (hl : s.heap.IsList l vs.toArray) (hlL : l ≠ env.locals) (hln : ∀ p ∈ news, p.1 ≠ l)
    (F : Fr h₀ env.locals s.heap m) (N : News h₀ env.locals s.heap news)
    (J : Nat → (PySem.Str → Option Value) → List (Addr × Obj) → Prop) (h0 : J 0 m news)
    (step : ∀ (i : Nat) x m₁ news₁ h tk own, vs[i]? = some x → J i m₁ news₁ → OwnOff own (news₁.map (·.1)) → Fr h₀ env.locals h m₁ → News h₀ env.locals h (news₁ ++ own) →
      wpAny (model prog w) A (assign target env x) (fun _ s₂ => wpAny (model prog w) A (execs body env) (TurnG h₀ env.locals (J (i + 1)) own { s with heap := h, toks := tk } Q) NoE s₂) NoE { s with heap := h, toks := tk })
    (done : ∀ h' tk m' news', Fr h₀ env.locals h' m' → News h₀ env.locals h' news' → J vs.length m' news' → (∀ o, s.heap.get? l = some o → h'.get? l = some o) → wpAny (model prog w) A (execs orelse env) Q NoE { s with heap := h', toks := tk })
    (ht : ∀ I v, letOwnedTupleGo target (.ref I) v = pure () := by intro _ _; rfl) :
    wpAny (model prog w) A (pyIter (.ref l)) (fun it s₂ => codeAny (model prog w) A (.forLoop target it body orelse env) (fun r s' => match r with | .ok f => Q f s' | .error e => cameBackBy (model prog w) A env NoE e s') s₂) NoE s := by
  refine wpAny_pyIter_list hl ?_
  obtain ⟨ol, hol, _⟩ := id hl
  have hne : l ≠ s.heap.objs.size := Nat.ne_of_lt (Heap.lt_size hol)
  have W := Walks.list (prog := prog) (w := w) hh s.heap.objs.size l hne vs.toArray
  have hlen : vs.toArray.size = vs.length := by simp
  rw [hlen] at W
  refine loopG (s := { s with heap := s.heap.push _ }) W ?_ ?_ ?_ ⟨⟨_, Heap.get?_push_size _ rfl, rfl, rfl⟩, hl.at fun o e => Heap.get?_push_of_some _ e⟩ (F.push _) (fun p hp => ⟨Heap.get?_push_of_some _ (N p hp).1, (N p hp).2⟩) ?_ J h0 ?_ (fun h' tk m' news' a b c d => done h' tk m' news' a b c fun o e => d l o (.tail _ (.head _)) (by intro q; exact hne (List.mem_singleton.mp q)) (Heap.get?_push_of_some _ e)) (ht _)
  · intro hm
    rcases List.mem_cons.mp hm with e | hm
    · exact absurd F.ns.lt (e ▸ Nat.lt_irrefl _)
    · exact hlL (List.mem_singleton.mp hm).symm
  · intro b hb
    rw [List.mem_singleton.mp hb]
    exact next_is_new F
  · intro b hb i h st e
    rcases List.mem_cons.mp hb with q | q
    · obtain ⟨o, ho, _⟩ := st.1
      rw [q, ho] at e; cases e
    · obtain ⟨o, ho, _⟩ := st.2
      rw [List.mem_singleton.mp q, ho] at e; cases e
  · intro p hp hb
    rcases List.mem_cons.mp hb with q | q
    · exact absurd (Heap.lt_size (N p hp).1) (q ▸ Nat.lt_irrefl _)
    · exact hln p hp (List.mem_singleton.mp q)
  · rintro i v m₁ news₁ h tk own hi hP hJ ho _ _ _ F₁ N₁
    exact step i v m₁ news₁ h tk own (by simpa using hP) hJ ho F₁ N₁
end
theorem enterF {w : World} {A : Around} {s : Shared} {R : Result → Shared → Prop} {K : Frag} {p : Program} {loose : List PySem.Str} {mean : ExcName → Option Value} {mg mb : PySem.Str → Option Value}
    {name qual : PySem.Str} {params : Arguments} {body : List Stmt} {scope : Scope} {dV kV doc pm cdv ct oc : Value} {an od : Option Addr} {osl : Array (Option Value)} {f : Addr} {args : Args} (binds : List (PySem.Str × Value))
    (X : K.In s.heap) (T : Top p loose mean mg mb s.heap) (hroom : A.depth < recursionLimit)
    (ho : K.lookup f = some ⟨oc, od, .func (fnOf name qual params body scope dV kV doc pm an cdv ct), osl⟩) (hcd : codeIn K cdv qual = true)
    (hbind : BindsTo s (fnOf name qual params body scope dV kV doc pm an cdv ct) args binds) (hloc : ∀ y ∈ binds, scope.names.lookup y.1 = some .local)
    (h : ∀ h₁ tk, Fr s.heap s.heap.objs.size h₁ (fun y => binds.reverse.lookup y) → News s.heap s.heap.objs.size h₁ [] →
      wpAny (model prog w) (A.deeper (envOf qual scope s.heap.objs.size f cdv)) (execs body (envOf qual scope s.heap.objs.size f cdv))
        (fun fl s' => R (.ok (.ret (match fl with | .ret v => v | _ => .none))) s') NoE { s with heap := h₁, toks := tk })
    (hco : scope.isCoroutine = false) (hgen : scope.isGenerator = false) (hk : scope.kind = .function)
    (hcell : ∀ x ∈ scope.names, x.2 ≠ .cell) : codeAny (model prog w) A (.call (.ref f) args) R s := by
  refine codeAny_call_def (fd := fnOf name qual params body scope dV kV doc pm an cdv ct) (body := body) (binds := binds) hroom (X _ _ ho) rfl T.nolimit (codeRec_of X hcd) rfl hbind hcell hloc (fun h₁ hns hk₁ => ?_) hco hgen hk
  exact wpAny_mono (h h₁ _ ⟨hns, hk₁, Nat.le_refl _⟩ News.nil) (fun _ _ h => h) (fun _ _ h => h.elim)

def Hold (P : Prop) : Prop := P
theorem hold_out {P : Prop} (h : Hold P) : P := h
theorem hold_in {P : Prop} (h : P) : Hold P := h
theorem map1 {m : PySem.Str → Option Value} {a : PySem.Str} {x : Value} (h : m a = some x) : m = fun z => if z = a then some x else m z := by
  funext z; by_cases q : z = a <;> simp_all
theorem map2 {m : PySem.Str → Option Value} {a b : PySem.Str} {x y : Value} (h : m a = some x) (h' : m b = some y) : m = fun z => if z = a then some x else if z = b then some y else m z := by
  funext z; by_cases q : z = a <;> by_cases q' : z = b <;> simp_all
theorem map3 {m : PySem.Str → Option Value} {a b c : PySem.Str} {x y z : Value} (h : m a = some x) (h' : m b = some y) (h'' : m c = some z) : m = fun u => if u = a then some x else if u = b then some y else if u = c then some z else m u := by
  funext u; by_cases q : u = a <;> by_cases q' : u = b <;> by_cases q'' : u = c <;> simp_all
theorem strs_push {vs : List Value} {ys : List PySem.Str} (h : StrsAre vs ys) (y : PySem.Str) (t : Tok) : StrsAre (vs ++ [.str y t]) (ys ++ [y]) := by
  induction h with
  | nil => exact .cons y t .nil
  | cons y' t' _ ih => exact .cons y' t' ih
theorem push_arr (vs : List Value) (x : Value) : vs.toArray.push x = (vs ++ [x]).toArray := by simp
theorem sum_le (k : Nat) : ∀ l : List PySem.Str, (∀ x ∈ l, x.length ≤ k) → (l.map (·.length)).sum ≤ l.length * k
  | [], _ => by simp
  | x :: l, h => by
    have h1 := h x (.head _)
    have h2 := sum_le k l fun y hy => h y (.tail _ hy)
    simp only [List.map_cons, List.sum_cons, List.length_cons, Nat.add_mul, Nat.one_mul]
    omega
end Mine
end

-- P1
section
open PySem PySem.W PyProof.Rows in
theorem Mine.resetP1 : True ∧ True := by
  w_top off
  walk1
  all_goals exact True.intro
end
section
open PySem PySem.W PyProof.Rows PySem.Calls
namespace Mine
theorem fillF1 : Challenge.rw_re0031_01.prog = Challenge.rw_re0031_01.prog ∧ ∀ P, Mine.hd.heap_39 P = Mine.hd.heap_39 P := by
  k_fill
  exact ⟨rfl, fun _ => rfl⟩

def flagName : Nat → PySem.Str
  | 0 => Str.ofString "OPTIMIZED" | 1 => Str.ofString "NEWLOCALS" | 2 => Str.ofString "VARARGS" | 3 => Str.ofString "VARKEYWORDS" | 4 => Str.ofString "NESTED"
  | 5 => Str.ofString "GENERATOR" | 6 => Str.ofString "NOFREE" | 7 => Str.ofString "COROUTINE" | 8 => Str.ofString "ITERABLE_COROUTINE" | _ => Str.ofString "ASYNC_GENERATOR"
def bitNames (n : Nat) : Nat → List PySem.Str
  | 0 => []
  | i + 1 => bitNames n i ++ (if n / 2 ^ i % 2 = 1 then [flagName i] else [])
theorem bitNames_len (n : Nat) : ∀ i, (bitNames n i).length ≤ i
  | 0 => Nat.le_refl _
  | i + 1 => by
    have := bitNames_len n i
    unfold bitNames
    rw [List.length_append]
    split <;> simp <;> omega
theorem bitNames_le (n : Nat) : ∀ i, ∀ x ∈ bitNames n i, x.length ≤ 18
  | 0, _, h => nomatch h
  | i + 1, x, h => by
    unfold bitNames at h
    rcases List.mem_append.mp h with h | h
    · exact bitNames_le n i x h
    · split at h
      · rw [List.mem_singleton.mp h]
        unfold flagName
        split <;> decide
      · cases h
theorem bitNames_sum (n : Nat) : ((bitNames n 10).map (·.length)).sum + (bitNames n 10).length * (Str.ofString ", ").length ≤ 16777216 := by
  have h1 := sum_le 18 _ (bitNames_le n 10)
  have h2 := bitNames_len n 10
  have h3 : (Str.ofString ", ").length = 2 := by decide
  rw [h3]
  omega
theorem bitNames_stop {n i : Nat} (h : n / 2 ^ i = 0) : ∀ k, bitNames n (i + k) = bitNames n i
  | 0 => rfl
  | k + 1 => by
    show bitNames n (i + k) ++ (if n / 2 ^ (i + k) % 2 = 1 then [flagName (i + k)] else []) = _
    have e : n / 2 ^ (i + k) = 0 := by
      rw [Nat.pow_add, ← Nat.div_div_eq_div_mul, h, Nat.zero_div]
    rw [bitNames_stop h k, e, if_neg (by decide), List.append_nil]
def JP (n : Nat) (ln : Addr) (i : Nat) (m : PySem.Str → Option Value) (news : List (Addr × Obj)) : Prop :=
  i ≤ 9 ∧ (∃ tf, m (Str.ofString "flags") = some (.int ((n / 2 ^ i * 2 ^ i : Nat) : Int) tf)) ∧ 0 < n / 2 ^ i ∧ m (Str.ofString "names") = some (.ref ln) ∧ ∃ vs nn, news = [(ln, W.listOf vs.toArray nn)] ∧ StrsAre vs (bitNames n i)
theorem pow_is (i : Nat) : (1 : Int) * 2 ^ ((0 : Int) + (i : Int)).toNat = 2 ^ i := by simp
theorem and_is (n i : Nat) : Builtin.bitAnd ((n / 2 ^ i * 2 ^ i : Nat) : Int) (1 * 2 ^ ((0 : Int) + (i : Int)).toNat) = ((n / 2 ^ i % 2 * 2 ^ i : Nat) : Int) := by
  rw [pow_is, kbt_bit]
  have e : ((n / 2 ^ i * 2 ^ i : Nat) : Int) / 2 ^ i = ((n / 2 ^ i : Nat) : Int) := by
    have : ((2 : Int) ^ i) = ((2 ^ i : Nat) : Int) := by simp
    rw [this, ← Int.natCast_ediv, Nat.mul_div_cancel _ (Nat.two_pow_pos i)]
  rw [e]
  simp
theorem xor_is {n i : Nat} (h : n / 2 ^ i % 2 = 1) : Builtin.bitXor ((n / 2 ^ i * 2 ^ i : Nat) : Int) (1 * 2 ^ ((0 : Int) + (i : Int)).toNat) = ((n / 2 ^ (i + 1) * 2 ^ (i + 1) : Nat) : Int) := by
  rw [bitXor_and, and_is, h, pow_is]
  have e : n / 2 ^ (i + 1) = n / 2 ^ i / 2 := by rw [Nat.pow_succ, Nat.div_div_eq_div_mul]
  rw [e]
  have : ((2 : Int) ^ i) = ((2 ^ i : Nat) : Int) := by simp
  rw [this, Nat.pow_succ]
  have e2 : n / 2 ^ i = 2 * (n / 2 ^ i / 2) + 1 := by omega
  generalize n / 2 ^ i / 2 = r at *
  rw [e2]
  generalize 2 ^ i = P
  have : (2 * r + 1) * P = r * (P * 2) + P := by rw [Nat.add_mul, Nat.one_mul, Nat.mul_comm 2 r, Nat.mul_assoc, Nat.mul_comm 2 P]
  rw [this]
  generalize r * (P * 2) = B
  omega
theorem jp_start {i : Nat} {n : Nat} (hb : Builtin.bitAnd ((n / 2 ^ i * 2 ^ i : Nat) : Int) (1 * 2 ^ ((0 : Int) + (i : Int)).toNat) ≠ 0) : n / 2 ^ i % 2 = 1 := by
  rw [and_is] at hb
  rcases Nat.mod_two_eq_zero_or_one (n / 2 ^ i) with e | e
  · rw [e, Nat.zero_mul] at hb; exact absurd rfl hb
  · exact e
theorem jp_set {i n : Nat} {ln : Addr} {m : PySem.Str → Option Value} {nn : Nat} {vs : List Value} {tv tf : Tok}
    (hb : Builtin.bitAnd ((n / 2 ^ i * 2 ^ i : Nat) : Int) (1 * 2 ^ ((0 : Int) + (i : Int)).toNat) ≠ 0) (hx : Builtin.bitXor ((n / 2 ^ i * 2 ^ i : Nat) : Int) (1 * 2 ^ ((0 : Int) + (i : Int)).toNat) ≠ 0)
    (hi : i ≤ 9) (hn : n < 1024) (hvs : StrsAre vs (bitNames n i)) (hm1 : m (Str.ofString "flags") = some (.int (Builtin.bitXor ((n / 2 ^ i * 2 ^ i : Nat) : Int) (1 * 2 ^ ((0 : Int) + (i : Int)).toNat)) tf)) (hm2 : m (Str.ofString "names") = some (.ref ln)) :
    JP n ln (i + 1) m [(ln, W.listOf (vs.toArray.push (.str (flagName i) tv)) nn)] := by
  have h1 := jp_start hb
  rw [xor_is h1] at hx hm1
  have hp : 0 < n / 2 ^ (i + 1) := by
    rcases Nat.eq_zero_or_pos (n / 2 ^ (i + 1)) with e | e
    · rw [e, Nat.zero_mul] at hx; exact absurd rfl hx
    · exact e
  refine ⟨?_, ⟨tf, hm1⟩, hp, hm2, vs ++ [.str (flagName i) tv], nn, by rw [push_arr], ?_⟩
  · rcases Nat.lt_or_ge i 9 with h | h
    · omega
    · have : i = 9 := by omega
      subst this
      rw [Nat.div_eq_of_lt hn] at hp
      exact absurd hp (Nat.lt_irrefl _)
  · show StrsAre _ (bitNames n i ++ _)
    rw [if_pos h1]
    exact strs_push hvs _ _
theorem jp_not {i n : Nat} {ln : Addr} {m : PySem.Str → Option Value} {nn : Nat} {vs : List Value} {tf : Tok}
    (hb : Builtin.bitAnd ((n / 2 ^ i * 2 ^ i : Nat) : Int) (1 * 2 ^ ((0 : Int) + (i : Int)).toNat) = 0) (hpos : 0 < n / 2 ^ i)
    (hi : i ≤ 9) (hn : n < 1024) (hvs : StrsAre vs (bitNames n i)) (hm1 : m (Str.ofString "flags") = some (.int ((n / 2 ^ i * 2 ^ i : Nat) : Int) tf)) (hm2 : m (Str.ofString "names") = some (.ref ln)) :
    JP n ln (i + 1) m [(ln, W.listOf vs.toArray nn)] := by
  have h1 : n / 2 ^ i % 2 = 0 := by
    rw [and_is] at hb
    rcases Nat.mod_two_eq_zero_or_one (n / 2 ^ i) with e | e
    · exact e
    · rw [e, Nat.one_mul] at hb
      have := Nat.two_pow_pos i
      omega
  have e : n / 2 ^ (i + 1) = n / 2 ^ i / 2 := by rw [Nat.pow_succ, Nat.div_div_eq_div_mul]
  have hp : 0 < n / 2 ^ (i + 1) := by rw [e]; omega
  have e2 : n / 2 ^ (i + 1) * 2 ^ (i + 1) = n / 2 ^ i * 2 ^ i := by
    have e3 : n / 2 ^ i = n / 2 ^ (i + 1) * 2 := by rw [e]; omega
    rw [e3, Nat.pow_succ, Nat.mul_assoc, Nat.mul_comm 2]
  refine ⟨?_, ⟨tf, by rw [e2]; exact hm1⟩, hp, hm2, vs, nn, rfl, ?_⟩
  · rcases Nat.lt_or_ge i 9 with h | h
    · omega
    · have : i = 9 := by omega
      subst this
      rw [Nat.div_eq_of_lt hn] at hp
      exact absurd hp (Nat.lt_irrefl _)
  · show StrsAre _ (bitNames n i ++ _)
    rw [if_neg (by omega), List.append_nil]
    exact hvs
theorem jp_end {i n : Nat} {vs : List Value} {tv : Tok} (hb : Builtin.bitAnd ((n / 2 ^ i * 2 ^ i : Nat) : Int) (1 * 2 ^ ((0 : Int) + (i : Int)).toNat) ≠ 0) (hx : Builtin.bitXor ((n / 2 ^ i * 2 ^ i : Nat) : Int) (1 * 2 ^ ((0 : Int) + (i : Int)).toNat) = 0)
    (hi : i ≤ 9) (hvs : StrsAre vs (bitNames n i)) : StrsAre (vs.toArray.push (.str (flagName i) tv)).toList (bitNames n 10) := by
  have h1 := jp_start hb
  rw [xor_is h1] at hx
  have h2 : n / 2 ^ (i + 1) = 0 := by
    rcases Nat.eq_zero_or_pos (n / 2 ^ (i + 1)) with e | e
    · exact e
    · have := Nat.mul_pos e (Nat.two_pow_pos (i + 1)); omega
  have e : bitNames n 10 = bitNames n (i + 1) := by
    have := bitNames_stop h2 (9 - i)
    rw [show i + 1 + (9 - i) = 10 by omega] at this
    exact this
  rw [e, push_arr]
  show StrsAre _ (bitNames n i ++ _)
  rw [if_pos h1]
  exact strs_push hvs _ _
theorem pretty1 {w : World} {A : Around} {s : Shared} {R : Result → Shared → Prop} {p : Program} {loose : List PySem.Str} {mean : ExcName → Option Value} {mg mb : PySem.Str → Option Value}
    (X : (Mine.hd.heap_39 w.params).In s.heap) (T : Top p loose mean mg mb s.heap) (hroom : A.depth < recursionLimit) (hh : A.handled = none) {n : Nat} {t : Tok} (h0 : 0 < n) (h1 : n < 1024)
    (hR : ∀ h' tk t', (∀ b o, s.heap.get? b = some o → h'.get? b = some o) → R (.ok (.ret (.str (Txt.join (Str.ofString ", ") (bitNames n 10)) t'))) { s with heap := h', toks := tk }) :
    codeAny (model prog w) A (.call (.ref 39) ⟨[.int (n : Int) t], []⟩) R s := by
  refine enterF [(Str.ofString "flags", .int n t)] X T hroom rfl rfl (BindsTo.of_eq rfl) (locs rfl) ?_ rfl rfl rfl (by decide)
  intro h₁ tk F' N'
  k_steps
  rename_i ln _ _ _ _ _
  k_fold
  have after : ∀ h tk m its nn own, Fr s.heap s.heap.objs.size h m → News s.heap s.heap.objs.size h ((ln, W.listOf its nn) :: own) → m (Str.ofString "names") = some (.ref ln) → StrsAre its.toList (bitNames n 10) → qk .next { s with heap := h, toks := tk } := by
    intro h tk m its nn own F N hm hs
    rename_i F0 N0 _ _ _ _
    clear F0 N0
    rw [map1 hm] at F
    k_steps
    refine join_list ⟨_, N.get (.head _), rfl, _, rfl⟩ hs (bitNames_sum n) ?_
    intro t' k
    exact hR _ _ _ F.keep
  refine wpAny_For ?_ (hs := fun _ => rfl)
  k_steps
  rename_i hr F N _
  refine iterRange (n := 32) hh hr rfl rfl F N (JP n ln) ?_ ?_ ?_
  · refine ⟨by omega, ⟨t, ?_⟩, by simpa using h0, rfl, [], 0, rfl, .nil⟩
    simp only [Nat.pow_zero, Nat.div_one, Nat.mul_one]
    rfl
  · clear hr F N
    rintro i ti m₁ news₁ h tk own hi ⟨hi9, ⟨tf, hf⟩, hpos, hnm, vs, nn, rfl, hvs⟩ hoff F₁ N₁
    rw [map2 hf hnm] at F₁
    have hlen : vs.length ≤ 10 := by
      have := hvs.length
      have := bitNames_len n i
      omega
    simp only [List.map_cons, List.map_nil] at hoff
    simp only [List.cons_append, List.nil_append] at N₁
    rcases (show i = 0 ∨ i = 1 ∨ i = 2 ∨ i = 3 ∨ i = 4 ∨ i = 5 ∨ i = 6 ∨ i = 7 ∨ i = 8 ∨ i = 9 by omega) with rfl | rfl | rfl | rfl | rfl | rfl | rfl | rfl | rfl | rfl
    all_goals k_steps
    all_goals first
      | (refine ⟨_, _, _, [(ln, _)], rfl, by assumption, by assumption, hoff, ?_⟩
         first
         | exact jp_set (by assumption) (by assumption) hi9 h1 hvs rfl rfl
         | exact jp_not (by assumption) hpos hi9 h1 hvs rfl rfl)
      | (refine after _ _ _ _ _ own (by assumption) (by assumption) rfl ?_
         exact jp_end (by assumption) (by assumption) hi9 hvs)
  · rintro h' tk m' news' F' N' ⟨h9, _⟩
    omega
end Mine
end

-- Pure1
section
open PySem PySem.W PyProof.Rows in
theorem Mine.resetPure1 : True ∧ True := by
  w_top off
  walk1
  all_goals exact True.intro
end
section
open PySem PySem.W PyProof.Rows PySem.Calls
namespace Mine
def firstAt (d : List Nat) : List Nat → Option Nat
  | [] => none
  | c :: l => match d.isPrefixOf (c :: l) with
    | true => some 0
    | false => match firstAt d l with
      | some i => some (i + 1)
      | none => none
def cutL (d : List Nat) : Nat → List Nat → List (List Nat)
  | 0, l => [l]
  | n + 1, l => match firstAt d l with
    | none => [l]
    | some i => l.take i :: cutL d n (l.drop (i + d.length))
theorem pre_iff (d l : List Nat) : d.isPrefixOf l = true ↔ l.take d.length = d := by
  rw [List.isPrefixOf_iff_prefix, List.prefix_iff_eq_take]
  exact ⟨fun h => h.symm, fun h => h.symm⟩
theorem firstAt_none (d : List Nat) (hd : d ≠ []) : ∀ l : List Nat, (∀ i, i + d.length ≤ l.length → (l.drop i).take d.length ≠ d) → firstAt d l = none
  | [], _ => rfl
  | c :: l, h => by
    unfold firstAt
    cases q : d.isPrefixOf (c :: l) with
    | true =>
      have e := (pre_iff _ _).mp q
      have hl : d.length ≤ (c :: l).length := by
        have := congrArg List.length e
        rw [List.length_take] at this
        omega
      exact absurd e (h 0 (by omega))
    | false =>
      dsimp only
      rw [firstAt_none d hd l fun i hi => h (i + 1) (by simp only [List.length_cons]; omega)]
theorem firstAt_some (d : List Nat) (hd : d ≠ []) : ∀ (l : List Nat) (i : Nat), i + d.length ≤ l.length → (l.drop i).take d.length = d → (∀ k, k < i → (l.drop k).take d.length ≠ d) → firstAt d l = some i
  | [], i, h1, _, _ => by
    have : 0 < d.length := List.length_pos_iff.mpr hd
    simp only [List.length_nil] at h1
    omega
  | c :: l, 0, h1, h2, _ => by
    unfold firstAt
    rw [(pre_iff d (c :: l)).mpr h2]
  | c :: l, i + 1, h1, h2, h3 => by
    unfold firstAt
    have q : d.isPrefixOf (c :: l) = false := by
      cases q : d.isPrefixOf (c :: l) with
      | false => rfl
      | true => exact absurd ((pre_iff _ _).mp q) (h3 0 (by omega))
    rw [q]
    dsimp only
    rw [firstAt_some d hd l i (by simp only [List.length_cons] at h1; omega) h2 fun k hk => h3 (k + 1) (by omega)]
open StrLaws Builtin Builtin.Str in
theorem parts_cut (x y : PySem.Str) (hy : y.cps.toList ≠ []) : ∀ (cuts : List Nat) (a f n : Nat), a ≤ x.length → ChainG x y x.length a cuts f → (∀ k, f ≤ k → ¬ At x y x.length k) → cuts.length < n →
    (partsFrom x y.length a cuts).map (·.cps.toList) = cutL y.cps.toList n (x.cps.toList.drop a)
  | _, _, _, 0, _, _, _, h => by omega
  | [], a, f, n + 1, ha, h, hn, _ => by
    have e : f = a := h
    subst e
    have hlen : x.cps.toList.length = x.length := by simp [PySem.Str.length]
    have hyl : y.cps.toList.length = y.length := by simp [PySem.Str.length]
    have q : firstAt y.cps.toList (x.cps.toList.drop f) = none := by
      refine firstAt_none _ hy _ fun i hi he => hn (f + i) (by omega) ⟨?_, ?_⟩
      · rw [List.length_drop, hlen, hyl] at hi
        have : 0 < y.cps.toList.length := List.length_pos_iff.mpr hy
        omega
      · rw [subAt_eq, ← List.drop_drop, ← hyl, he]
        exact beq_self_eq_true _
    unfold cutL
    rw [q]
    show [(strSub x f x.length).cps.toList] = _
    rw [strSub_toList, List.take_of_length_le (by rw [List.length_drop, hlen]; exact Nat.le_refl _)]
  | c :: r, a, f, n + 1, ha, h, hn, hl => by
    obtain ⟨h1, ⟨h2, h2'⟩, h3, h4⟩ := h
    have hlen : x.cps.toList.length = x.length := by simp [PySem.Str.length]
    have hyl : y.cps.toList.length = y.length := by simp [PySem.Str.length]
    have q : firstAt y.cps.toList (x.cps.toList.drop a) = some (c - a) := by
      refine firstAt_some _ hy _ _ ?_ ?_ ?_
      · rw [List.length_drop, hlen, hyl]; omega
      · rw [List.drop_drop, show a + (c - a) = c by omega, hyl]
        rw [subAt_eq] at h2'
        exact eq_of_beq h2'
      · intro k hk he
        refine h3 (a + k) (by omega) (by omega) ⟨by omega, ?_⟩
        rw [subAt_eq, ← List.drop_drop, ← hyl, he]
        exact beq_self_eq_true _
    unfold cutL
    rw [q]
    show (strSub x a c).cps.toList :: (partsFrom x y.length (c + y.length) r).map (·.cps.toList) = _
    rw [strSub_toList, parts_cut x y hy r (c + y.length) f n h2 h4 hn (by simp only [List.length_cons] at hl; omega)]
    dsimp only
    rw [List.drop_drop, hyl, show a + (c - a + y.length) = c + y.length by omega]
open StrLaws Builtin Builtin.Str in
theorem split_cut (x y : PySem.Str) (hy : y.cps.toList ≠ []) (hk : strKind y ≤ strKind x) : (Txt.split x y).map (·.cps.toList) = cutL y.cps.toList (x.length + 2) x.cps.toList := by
  have hyl : y.cps.toList.length = y.length := by simp [PySem.Str.length]
  have hw : 1 ≤ y.length := by rw [← hyl]; exact List.length_pos_iff.mpr hy
  obtain ⟨f, hG, hn⟩ := occ_tight x y hw
  have hle := occ_length_le_len x y 0 x.length (x.length + 1)
  have key := parts_cut x y hy _ 0 f (x.length + 2) (Nat.zero_le _) hG hn (by omega)
  rw [List.drop_zero] at key
  rw [← key, ← partsBetween_eq]
  congr 1
  have none_eq : ∀ l : List Nat, l = [] → partsBetween x l y.length = [x] := fun l e => by
    rw [e, partsBetween_eq]
    show [strSub x 0 x.length] = [x]
    congr 1
    apply PySem.Str.ext'
    apply Array.ext'
    rw [strSub_toList, List.drop_zero, Nat.sub_zero]
    exact List.take_of_length_le (by simp [PySem.Str.length])
  unfold Txt.split
  split
  · rename_i h
    refine (none_eq _ ?_).symm
    have hlt : x.length < y.length := by
      rcases Bool.or_eq_true_iff.mp h with h | h
      · exact of_decide_eq_true h
      · have := of_decide_eq_true h; omega
    cases ho : occurrences x y 0 x.length (x.length + 1) with
    | nil => rfl
    | cons c r =>
      rw [ho] at hG
      have := hG.2.1.1
      omega
  · split
    · rename_i h
      exact (none_eq _ (List.isEmpty_iff.mp h)).symm
    · rfl

def dots (n : Nat) : PySem.Str := ⟨Array.replicate n 46⟩
def wantOf (a b : Nat) : PySem.Str := (dots a ++ Str.ofString "x") ++ dots b
/-- the pieces between the ellipses -/
def pieces (a b : Nat) : List (List Nat) :=
  List.replicate (a / 3) [] ++ (if b < 3 then [List.replicate (a % 3) 46 ++ 120 :: List.replicate b 46] else (List.replicate (a % 3) 46 ++ [120]) :: (List.replicate (b / 3 - 1) [] ++ [List.replicate (b % 3) 46]))
def okCut (a b : Nat) : Bool := cutL [46, 46, 46] (a + 1 + b + 2) (List.replicate a 46 ++ 120 :: List.replicate b 46) == pieces a b

theorem okCut_all : (List.range' 2 19).all (fun a => (List.range' 2 19).all fun b => okCut a b) = true := by decide +kernel
theorem dots_list (n : Nat) : (dots n).cps.toList = List.replicate n 46 := by simp [dots]
theorem dots_len (n : Nat) : (dots n).length = n := by simp [dots, PySem.Str.length]
theorem dots_add (a b : Nat) : dots a ++ dots b = dots (a + b) := by
  apply PySem.Str.ext'
  apply Array.ext'
  rw [PySem.Str.cps_append]
  simp [dots]
theorem want_list (a b : Nat) : (wantOf a b).cps.toList = List.replicate a 46 ++ 120 :: List.replicate b 46 := by
  unfold wantOf
  rw [PySem.Str.cps_append, PySem.Str.cps_append]
  have : (Str.ofString "x").cps.toList = [120] := by decide
  simp only [Array.toList_append, dots_list, this, List.append_assoc, List.cons_append, List.nil_append]
theorem want_len (a b : Nat) : (wantOf a b).length = a + 1 + b := by
  have : (wantOf a b).length = (wantOf a b).cps.toList.length := by simp [PySem.Str.length]
  rw [this, want_list]
  simp
  omega
theorem kind_of {x : PySem.Str} (h : ∀ c ∈ x.cps.toList, c < 256) : Builtin.Str.strKind x = 1 := by
  unfold Builtin.Str.strKind
  rw [if_pos]
  rw [← Array.all_toList]
  exact List.all_eq_true.mpr fun c hc => decide_eq_true (h c hc)
theorem want_split {a b : Nat} (ha : 2 ≤ a) (ha' : a ≤ 20) (hb : 2 ≤ b) (hb' : b ≤ 20) : (Txt.split (wantOf a b) (Str.ofString "...")).map (·.cps.toList) = pieces a b := by
  rw [split_cut _ _ (by decide) (by
    rw [kind_of (x := wantOf a b), show Builtin.Str.strKind (Str.ofString "...") = 1 by decide +kernel]
    · exact Nat.le_refl _
    · intro c hc
      rw [want_list] at hc
      rcases List.mem_append.mp hc with h | h
      · rw [(List.mem_replicate.mp h).2]; decide
      · rcases List.mem_cons.mp h with h | h
        · rw [h]; decide
        · rw [(List.mem_replicate.mp h).2]; decide)]
  rw [want_len, want_list]
  have h := List.all_eq_true.mp okCut_all a (by rw [List.mem_range'_1]; omega)
  have h := List.all_eq_true.mp h b (by rw [List.mem_range'_1]; omega)
  exact eq_of_beq h
end Mine
end

-- P2
section
open PySem PySem.W PyProof.Rows in
theorem Mine.resetP2 : True ∧ True := by
  w_top off
  walk1
  all_goals exact True.intro
end
section
open PySem PySem.W PyProof.Rows PySem.Calls
namespace Mine

theorem split_cases {l : List (PySem.Str × Tok)} {a b : Nat} (hl : l.map (·.1) = Txt.split (wantOf a b) (Str.ofString "...")) (ha : 2 ≤ a) (ha' : a ≤ 20) (hb : 2 ≤ b) (hb' : b ≤ 20) : l.map (fun p => p.1.cps.toList) = pieces a b := by
  rw [← want_split ha ha' hb hb', ← hl, List.map_map]
  rfl

theorem str_eq {x y : PySem.Str} (h : x.cps.toList = y.cps.toList) : x = y := PySem.Str.ext' (Array.ext' h)

theorem pieces_head {a : Nat} (b : Nat) (h : 3 ≤ a) : ∃ r, pieces a b = [] :: r := by
  unfold pieces
  obtain ⟨n, e⟩ : ∃ n, a / 3 = n + 1 := ⟨a / 3 - 1, by omega⟩
  rw [e, List.replicate_succ, List.cons_append]
  exact ⟨_, rfl⟩
theorem pieces_last (a b : Nat) : (pieces a b).getLast? = some (if b < 3 then List.replicate (a % 3) 46 ++ 120 :: List.replicate b 46 else List.replicate (b % 3) 46) := by
  unfold pieces
  split
  · simp
  · rw [List.getLast?_append, ← List.cons_append, List.getLast?_append]
    rfl
theorem pieces_len {a b : Nat} (h : 3 ≤ b) : (pieces a b).length = a / 3 + b / 3 + 1 := by
  unfold pieces
  rw [if_neg (by omega)]
  simp
  omega
theorem piece_at {a b i : Nat} {q : List Nat} (hb : 3 ≤ b) (hb0 : b % 3 = 0) (h : (pieces a b)[i]? = some q) : (i = a / 3 ∧ q = List.replicate (a % 3) 46 ++ [120]) ∨ (i ≠ a / 3 ∧ q = []) := by
  unfold pieces at h
  rw [if_neg (by omega), hb0] at h
  rcases Nat.lt_trichotomy i (a / 3) with h1 | h1 | h1
  · rw [List.getElem?_append_left (by simpa using h1)] at h
    have := List.mem_of_getElem? h
    exact .inr ⟨by omega, (List.mem_replicate.mp this).2⟩
  · subst h1
    rw [List.getElem?_append_right (by simp)] at h
    simp at h
    exact .inl ⟨rfl, h.symm⟩
  · rw [List.getElem?_append_right (by simp; omega)] at h
    simp only [List.length_replicate] at h
    obtain ⟨j, e⟩ : ∃ j, i - a / 3 = j + 1 := ⟨i - a / 3 - 1, by omega⟩
    rw [e, List.getElem?_cons_succ] at h
    have := List.mem_of_getElem? h
    rcases List.mem_append.mp this with q | q
    · exact .inr ⟨by omega, (List.mem_replicate.mp q).2⟩
    · exact .inr ⟨by omega, List.mem_singleton.mp q⟩
theorem pieces_two {a b : Nat} (h : 3 ≤ a ∨ 3 ≤ b) : 2 ≤ (pieces a b).length := by
  unfold pieces
  split <;> simp <;> omega
theorem pieces_most {a b : Nat} (ha : a ≤ 20) (hb : b ≤ 20) : (pieces a b).length ≤ 1000 := by
  unfold pieces
  split <;> simp <;> omega
theorem mark_none {a b : Nat} (h : (Builtin.Str.occurrences (wantOf a b) (Str.ofString "...") 0 (wantOf a b).length 1).isEmpty = true) : a < 3 := by
  refine Nat.lt_of_not_le fun h3 => ?_
  have := (StrLaws.found_iff (wantOf a b) (Str.ofString "...")).mpr ⟨0, ?_, ?_⟩
  · rw [h] at this; cases this
  · rw [want_len, show (Str.ofString "...").length = 3 by decide]; omega
  · rw [StrLaws.subAt_eq, want_list, List.drop_zero, show (Str.ofString "...").length = 3 by decide, show (Str.ofString "...").cps.toList = [46, 46, 46] by decide]
    obtain ⟨n, rfl⟩ : ∃ n, a = n + 3 := ⟨a - 3, by omega⟩
    rfl
theorem mark_some {a b : Nat} (ha : 2 ≤ a) (hb : 2 ≤ b) (h : (Builtin.Str.occurrences (wantOf a b) (Str.ofString "...") 0 (wantOf a b).length 1).isEmpty = false) : 3 ≤ a ∨ 3 ≤ b := by
  rcases Nat.lt_or_ge a 3 with h1 | h1
  · rcases Nat.lt_or_ge b 3 with h2 | h2
    · have e1 : a = 2 := by omega
      have e2 : b = 2 := by omega
      subst e1 e2
      have : (Builtin.Str.occurrences (wantOf 2 2) (Str.ofString "...") 0 (wantOf 2 2).length 1).isEmpty = true := by decide +kernel
      rw [this] at h; cases h
    · exact .inr h2
  · exact .inl h1
theorem want_ne {a b : Nat} (ha : 2 ≤ a) : (wantOf a b == Str.ofString "x") = false := by
  refine beq_eq_false_iff_ne.mpr fun h => ?_
  have := congrArg PySem.Str.length h
  rw [want_len, show (Str.ofString "x").length = 1 by decide] at this
  omega
def JE (a : Nat) (i : Nat) (m : PySem.Str → Option Value) (news : List (Addr × Obj)) : Prop :=
  news = [] ∧ (∃ t, m (Str.ofString "got") = some (.str (Str.ofString "x") t)) ∧ (∃ t, m (Str.ofString "endpos") = some (.int 1 t)) ∧
    ((i ≤ a / 3 ∧ ∃ t, m (Str.ofString "startpos") = some (.int 0 t)) ∨ (a / 3 < i ∧ a % 3 = 0 ∧ ∃ t, m (Str.ofString "startpos") = some (.int 1 t)))
theorem strs_at {l : List (PySem.Str × Tok)} {i : Nat} {x : Value} (h : (strValues l)[i]? = some x) : ∃ z t, x = .str z t ∧ (l.map fun p => p.1.cps.toList)[i]? = some z.cps.toList := by
  simp only [strValues, List.getElem?_map] at h ⊢
  cases q : l[i]? with
  | none => rw [q] at h; cases h
  | some p => rw [q] at h; exact ⟨p.1, p.2, (Option.some.inj h).symm, rfl⟩
section
variable {w : World} {A : Around} {E : Value → Shared → Prop} {s : Shared} {Q : Value → Shared → Prop}
theorem gives_find4 (x y : PySem.Str) (i j : Int) (t u v v' : Tok) : Gives (Builtin.«str.find» ⟨[.str x t, .str y u, .int i v, .int j v'], []⟩) (.int (match Builtin.Str.occurrences x y (fromIndex x.length i) (min (fromIndex x.length j) x.length) 1 with | k :: _ => (k : Int) | [] => -1)) := by
  show Gives (match Builtin.Str.occurrences x y (fromIndex x.length i) (min (fromIndex x.length j) x.length) 1 with | k :: _ => retInt k | [] => (do rule "str.find.not-found"; retInt (-1))) _
  cases Builtin.Str.occurrences x y (fromIndex x.length i) (min (fromIndex x.length j) x.length) 1 with
  | nil => exact .rule (.of_eq rfl)
  | cons k _ => exact .of_eq rfl
theorem find4 (r : Int) {x y : PySem.Str} {i j : Int} {t u v v' : Tok} (e : (match Builtin.Str.occurrences x y (fromIndex x.length i) (min (fromIndex x.length j) x.length) 1 with | k :: _ => (k : Int) | [] => -1) = r)
    (h : ∀ t' k, Q (.int r t') { s with toks := k }) : wpAny (model prog w) A (call (.builtin "str.find") [.str x t, .str y u, .int i v, .int j v']) Q E s :=
  call_gives F.slot_str_find (typeIs_str _ _ _) F.entry_str_find (F.args_str_find_4 _ _ _ _) (gives_find4 x y i j t u v v') (by rw [e]; exact h _ _)
theorem len_strs {D : Addr} {l : List (PySem.Str × Tok)} (hl : s.heap.IsList D (strValues l).toArray) (hb : l.length ≤ 1000) (h : ∀ t tk, Q (.int (l.length : Int) t) { s with toks := tk }) : wpAny (model prog w) A (call (.builtin "len") [.ref D]) Q E s := by
  have e : (strValues l).toArray.size = l.length := by simp [strValues]
  refine PyProof.Rows.len_list hl (by rw [e]; omega) ?_
  rw [e]
  exact h _ _
theorem head_strs {value slice : Expr} {D : Addr} {l : List (PySem.Str × Tok)} {y : PySem.Str} {ty u : Tok} (hl : s.heap.IsList D (strValues ((y, ty) :: l)).toArray) (h : Q (.str y ty) s)
    (hs : subscripted slice false (.ref D) (.int 0 u) = operate [.ref D, .int 0 u] (getItem (.ref D) (.int 0 u)) := by with_unfolding_all rfl) :
    wpAny (model prog w) A (subscriptTail value slice (.ref D) (.int 0 u)) Q E s := by
  refine tail_any hl.typeIs slot_list_getitem.lookup (wpAny_getItem_list hl (by decide) (by decide) ?_ h) hs
  simp [strValues]
theorem last_strs {value slice : Expr} {D : Addr} {l : List (PySem.Str × Tok)} {y : PySem.Str} {ty u : Tok} (hl : s.heap.IsList D (strValues (l ++ [(y, ty)])).toArray) (h : Q (.str y ty) s)
    (hs : subscripted slice false (.ref D) (.int (-1) u) = operate [.ref D, .int (-1) u] (getItem (.ref D) (.int (-1) u)) := by with_unfolding_all rfl) :
    wpAny (model prog w) A (subscriptTail value slice (.ref D) (.int (-1) u)) Q E s := by
  have e : (strValues (l ++ [(y, ty)])).toArray.size = l.length + 1 := by simp [strValues]
  refine tail_any hl.typeIs slot_list_getitem.lookup (wpAny_getItem_list_neg hl (by decide) (by rw [e]; omega) (by decide) ?_ h) hs
  rw [e, show (-1 + ((l.length + 1 : Nat) : Int)).toNat = l.length by omega]
  simp [strValues]
end
section
local macro_rules | `(tactic| walk_at "call builtin:str.split") => `(tactic| refine hold_out ?_)
local macro_rules | `(tactic| walk_at "call builtin:len") => `(tactic| ((with_reducible show wpAny _ _ (call (Value.builtin "len") [Value.ref _]) _ _ _); refine len_strs (News.isList (by assumption) (List.Mem.head _)) (by assumption) ?_; intro _ tk))
local macro_rules | `(tactic| walk_at "subscriptTail Name Constant ref int") => `(tactic| (refine head_strs (News.isList (by assumption) (by first | exact .head _ | exact .tail _ (.head _))) ?_))
local macro_rules | `(tactic| walk_at "subscriptTail Name UnaryOp ref int") => `(tactic| (refine last_strs (l := _ :: _) (News.isList (by assumption) (by first | exact .head _ | exact .tail _ (.head _))) ?_))
local macro_rules | `(tactic| walk_at "exec For Name Name cons nil") => `(tactic| refine hold_out ?_)
local macro_rules | `(tactic| walk_at "call builtin:str.find") => `(tactic| (first | refine find4 0 (by decide +kernel) ?_ | refine find4 1 (by decide +kernel) ?_ | refine find4 (-1) (by decide +kernel) ?_; intro _ tk))
theorem ell1 {w : World} {A : Around} {s : Shared} {R : Result → Shared → Prop} {p : Program} {loose : List PySem.Str} {mean : ExcName → Option Value} {mg mb : PySem.Str → Option Value}
    (X : (Mine.hd.heap_39 w.params).In s.heap) (T : Top p loose mean mg mb s.heap) (hroom : A.depth < recursionLimit) (hh : A.handled = none) {a b : Nat} {t t' : Tok} (ha : 2 ≤ a) (ha' : a ≤ 20) (hb : 2 ≤ b) (hb' : b ≤ 20)
    (hR : ∀ h' tk, (∀ b o, s.heap.get? b = some o → h'.get? b = some o) → R (.ok (.ret (.bool (decide (a % 3 = 0 ∧ b % 3 = 0))))) { s with heap := h', toks := tk }) :
    codeAny (model prog w) A (.call (.ref 76) ⟨[.str (wantOf a b) t, .str (Str.ofString "x") t'], []⟩) R s := by
  obtain ⟨hd, d, fr, gu, un⟩ := A
  cases hh
  have hW : (wantOf a b).length ≤ 1000 := by rw [want_len]; omega
  refine enterF [(Str.ofString "want", .str (wantOf a b) t), (Str.ofString "got", .str (Str.ofString "x") t')] X T hroom rfl rfl (BindsTo.of_eq rfl) (locs rfl) ?_ rfl rfl rfl (by decide)
  intro h₁ tk F' N'
  generalize hWW : wantOf a b = W at *
  have hend : ∀ h' tk (q : Bool), q = decide (a % 3 = 0 ∧ b % 3 = 0) → (∀ b o, s.heap.get? b = some o → h'.get? b = some o) → R (.ok (.ret (.bool q))) { s with heap := h', toks := tk } := fun h' tk q hq hk => hq ▸ hR h' tk hk
  k_steps
  · rename_i hmark
    refine hend _ _ _ ?_ F'.keep
    have h2 : a < 3 := mark_none (hWW ▸ hmark)
    have : (W == Str.ofString "x") = false := by rw [← hWW]; exact want_ne ha
    rw [this]
    exact (decide_eq_false (by omega)).symm
  · rename_i hmark
    refine hold_in ?_
    refine splitN1 F' N' (by decide) ?_
    intro l h' k hl F N
    clear F' N'
    have hp : l.map (fun p => p.1.cps.toList) = pieces a b := split_cases (hWW ▸ hl) ha ha' hb hb'
    clear hl
    have hab : 3 ≤ a ∨ 3 ≤ b := mark_some ha hb (hWW ▸ hmark)
    have hl2 : 2 ≤ l.length := by rw [← List.length_map (f := fun p : PySem.Str × Tok => p.1.cps.toList), hp]; exact pieces_two hab
    have hl9 : l.length ≤ 1000 := by rw [← List.length_map (f := fun p : PySem.Str × Tok => p.1.cps.toList), hp]; exact pieces_most ha' hb'
    rcases Nat.lt_or_ge a 3 with h3 | h3
    · have : a = 2 := by omega
      subst this
      have hb3 : 3 ≤ b := by omega
      obtain ⟨⟨x0, t0⟩, l', rfl⟩ : ∃ q l', l = q :: l' := by
        cases l with
        | nil => simp at hl2
        | cons q l' => exact ⟨q, l', rfl⟩
      have hx : x0 = Str.ofString "..x" := by
        have e : pieces 2 b = [46, 46, 120] :: (List.replicate (b / 3 - 1) [] ++ [List.replicate (b % 3) 46]) := by
          unfold pieces
          rw [if_neg (by omega)]
          rfl
        rw [e] at hp
        injection hp with h1 _
        exact str_eq (h1.trans (by decide))
      subst hx
      k_steps
      exact hend _ _ _ (by simp) (Fr.keep (by assumption))
    · obtain ⟨⟨x0, t0⟩, l', rfl⟩ : ∃ q l', l = q :: l' := by
        cases l with
        | nil => simp at hl2
        | cons q l' => exact ⟨q, l', rfl⟩
      have hx : x0 = Str.ofString "" := by
        obtain ⟨r, e⟩ := pieces_head b h3
        rw [e] at hp
        injection hp with h1 _
        exact str_eq (h1.trans (by decide))
      subst hx
      obtain ⟨l'', y, ty, rfl⟩ : ∃ l'' y ty, l' = l'' ++ [(y, ty)] := by
        rcases List.eq_nil_or_concat l' with e | ⟨l'', ⟨y, ty⟩, e⟩
        · subst e; simp at hl2
        · exact ⟨l'', y, ty, by rw [e]; simp⟩
      have hy : y.cps.toList = if b < 3 then List.replicate (a % 3) 46 ++ 120 :: List.replicate b 46 else List.replicate (b % 3) 46 := by
        have h1 := congrArg List.getLast? hp
        rw [pieces_last, List.map_cons, List.map_append, ← List.cons_append, List.getLast?_append] at h1
        exact Option.some.inj h1
      k_steps
      rcases Nat.lt_or_ge b 3 with hb3 | hb3
      · rw [if_pos hb3] at hy
        have : b = 2 := by omega
        subst this
        rcases (show a % 3 = 0 ∨ a % 3 = 1 ∨ a % 3 = 2 by omega) with e | e | e
        all_goals (
          rw [e] at hy
          first
          | (have hy : y = Str.ofString "x.." := str_eq (hy.trans (by decide))
             subst hy)
          | (have hy : y = Str.ofString ".x.." := str_eq (hy.trans (by decide))
             subst hy)
          | (have hy : y = Str.ofString "..x.." := str_eq (hy.trans (by decide))
             subst hy)
          k_steps
          exact hend _ _ _ (by simp) (Fr.keep (by assumption)))
      · rw [if_neg (by omega)] at hy
        rcases (show b % 3 = 1 ∨ b % 3 = 2 ∨ b % 3 = 0 by omega) with e | e | e
        · rw [e] at hy
          have hy : y = Str.ofString "." := str_eq (hy.trans (by decide))
          subst hy
          k_steps
          exact hend _ _ _ (by simp [e]) (Fr.keep (by assumption))
        · rw [e] at hy
          have hy : y = Str.ofString ".." := str_eq (hy.trans (by decide))
          subst hy
          k_steps
          exact hend _ _ _ (by simp [e]) (Fr.keep (by assumption))
        · rw [e] at hy
          have hy : y = Str.ofString "" := str_eq (hy.trans (by decide))
          subst hy
          k_steps
          rename_i F N _
          refine hold_in ?_
          k_fold
          refine wpAny_For ?_ (hs := fun _ => rfl)
          k_steps
          refine iterList (vs := strValues ((Str.ofString "", t0) :: (l'' ++ [(Str.ofString "", ty)]))) (news := []) rfl (News.isList N (by first | exact .head _ | exact .tail _ (.head _))) ?_ (fun _ h => nomatch h) F News.nil (JE a) ?_ ?_ ?_
          · exact (N (_, { cls := .type "list", data := .seq _ }) (by first | exact .head _ | exact .tail _ (.head _))).2.1
          · exact ⟨rfl, ⟨_, rfl⟩, ⟨_, rfl⟩, .inl ⟨Nat.zero_le _, _, rfl⟩⟩
          · rintro i x m₁ news₁ h tk own hx ⟨rfl, ⟨tg, hg⟩, ⟨te, he⟩, hJ⟩ hoff F₁ N₁
            obtain ⟨z, tz, rfl, hz⟩ := strs_at hx
            rw [hp] at hz
            simp only [List.nil_append, List.map_nil] at N₁ hoff
            clear F N
            rcases piece_at hb3 e hz with ⟨hi, hz⟩ | ⟨hi, hz⟩
            · rcases hJ with ⟨_, ts, hs⟩ | ⟨h1, _⟩
              · rw [map3 hg he hs] at F₁
                rcases (show a % 3 = 0 ∨ a % 3 = 1 ∨ a % 3 = 2 by omega) with q | q | q
                · rw [q] at hz
                  have hz : z = Str.ofString "x" := str_eq (hz.trans (by decide))
                  subst hz
                  k_steps
                  exact ⟨_, _, _, [], rfl, by assumption, by assumption, hoff, rfl, ⟨_, rfl⟩, ⟨_, rfl⟩, .inr ⟨by omega, q, _, rfl⟩⟩
                · rw [q] at hz
                  have hz : z = Str.ofString ".x" := str_eq (hz.trans (by decide))
                  subst hz
                  k_steps
                  exact hend _ _ _ (by simp [q]) (Fr.keep (by assumption))
                · rw [q] at hz
                  have hz : z = Str.ofString "..x" := str_eq (hz.trans (by decide))
                  subst hz
                  k_steps
                  exact hend _ _ _ (by simp [q]) (Fr.keep (by assumption))
              · omega
            · have hz : z = Str.ofString "" := str_eq (hz.trans (by decide))
              subst hz
              rcases hJ with ⟨h1, ts, hs⟩ | ⟨h1, h2, ts, hs⟩
              · rw [map3 hg he hs] at F₁
                k_steps
                exact ⟨_, _, _, [], rfl, by assumption, by assumption, hoff, rfl, ⟨_, rfl⟩, ⟨_, rfl⟩, .inl ⟨by omega, _, rfl⟩⟩
              · rw [map3 hg he hs] at F₁
                k_steps
                exact ⟨_, _, _, [], rfl, by assumption, by assumption, hoff, rfl, ⟨_, rfl⟩, ⟨_, rfl⟩, .inr ⟨by omega, h2, _, rfl⟩⟩
          · rintro h' tk m' news' F' N' ⟨rfl, ⟨tg, hg⟩, ⟨te, he⟩, hJ⟩ _
            k_steps
            refine hend _ _ _ ?_ F'.keep
            have hlen : ((Str.ofString "", t0) :: (l'' ++ [(Str.ofString "", ty)])).length = a / 3 + b / 3 + 1 := by
              rw [← List.length_map (f := fun p : PySem.Str × Tok => p.1.cps.toList), hp]
              exact pieces_len hb3
            have hlen' : (strValues ((Str.ofString "", t0) :: (l'' ++ [(Str.ofString "", ty)]))).length = a / 3 + b / 3 + 1 := by
              rw [← hlen]; simp [strValues]
            rw [hlen'] at hJ
            rcases hJ with ⟨h1, _⟩ | ⟨_, h2, _⟩
            · omega
            · exact (decide_eq_true ⟨h2, e⟩).symm
end
end Mine
end

-- Re1
section
open PySem PySem.W PyProof.Rows in
theorem Mine.resetRe1 : True ∧ True := by
  w_top off
  walk1
  all_goals exact True.intro
end
section
open PySem PySem.W PyProof.Rows PySem.Calls
namespace Mine
theorem plainAttrs_pat : PlainAttrs "re.Pattern" :=
  ⟨⟨"object.__getattribute__", by rw [typeLookup_type, builtinLookup_eq_fast]; kernel_rfl, by decide +kernel⟩, by rw [typeLookup_type, builtinLookup_eq_fast]; kernel_rfl⟩
theorem slot_sub : Slot "re.Pattern" "sub" "re.Pattern.sub" :=
  .of (owner := "re.Pattern") (n := "sub") (by rw [typeLookup_type, builtinLookup_eq_fast]; kernel_rfl) (by decide +kernel) (by decide +kernel) (by decide +kernel)
    (by first | exact .inl (by decide +kernel) | exact .inr (by decide +kernel)) (by rw [isSubtype_type]; kernel_rfl)
theorem type_sub : typeOf (.builtin "re.Pattern.sub") = pure (.type "method_descriptor") := by show builtinType _ = _; rw [builtinType_eq_fast]; kernel_rfl
theorem entry_sub : entryFor table "re.Pattern.sub" = some Builtin.«re.Pattern.sub» := entryFor_of_tree (by kernel_rfl)
theorem entry_loop : entryFor table "re.Pattern.sub.loop" = some Builtin.«re.Pattern.sub.loop» := entryFor_of_tree (by kernel_rfl)
theorem args_sub (a b c : Value) : argsOk "re.Pattern.sub" ⟨[a, b, c], []⟩ := by unfold argsOk; kernel_rfl
theorem str_nocall : typeLookup (.type "str") "__call__" = pure none := by rw [typeLookup_type, builtinLookup_eq_fast]; kernel_rfl

open Builtin.Re
def driveP : Nat → Sre.M → Option Sre.M
  | 0, _ => none
  | n + 1, m =>
    let m := m.runFor 4
    match m.outcome.isSome with
    | true => some m
    | false => driveP n m
section
variable {M : Model} {A : Around} {E : Value → Shared → Prop} {s : Shared}
theorem wp_drive {Q : Sre.M → Shared → Prop} : ∀ (n turns : Nat) (m m' : Sre.M), driveP n m = some m' → n ≤ turns → Q m' s → wpAny M A (reDrive turns m) Q E s
  | 0, _, _, _, h, _, _ => by cases h
  | n + 1, 0, _, _, _, h, _ => by omega
  | n + 1, turns + 1, m, m', h, hn, hq => by
    unfold driveP at h
    unfold reDrive
    show wpAny M A (if (m.runFor 4).outcome.isSome = true then pure (m.runFor 4) else _) Q E s
    dsimp only at h
    split at h
    · rename_i e
      rw [if_pos e]
      cases h
      exact wpAny_pure hq
    · rename_i e
      rw [if_neg (by rw [e]; exact Bool.false_ne_true)]
      exact wpAny_bind (wpAny_rule (wp_drive n turns _ m' h (by omega) hq))
theorem wp_rules {l : List Nat} {p : Nat → Bool} {f : Nat → String} {Q : PUnit → Shared → Prop} (h : Q ⟨⟩ s) :
    wpAny M A (forIn l PUnit.unit fun i (_ : PUnit) => do
      if p i = true then rule (f i)
      pure (ForInStep.yield PUnit.unit)) Q E s := by
  induction l with
  | nil => exact wpAny_pure h
  | cons a l ih =>
    rw [List.forIn_cons]
    refine wpAny_bind ?_
    cases q : p a with
    | true =>
      dsimp only
      rw [if_pos rfl]
      exact wpAny_bind (wpAny_rule (wpAny_pure ih))
    | false =>
      dsimp only
      rw [if_neg Bool.false_ne_true]
      exact wpAny_pure ih
theorem wp_runToEnd {Q : Option Sre.M → Shared → Prop} {n : Nat} {m m' : Sre.M} (h : driveP n m = some m') (hn : n ≤ 2 ^ 64) (hq : (m'.outcome = some .matched ∧ Q (some m') s) ∨ (m'.outcome = some .failed ∧ Q none s)) : wpAny M A (reRunToEnd m) Q E s := by
  unfold reRunToEnd
  refine wpAny_bind (wp_drive n _ m m' h hn ?_)
  refine wpAny_bind (wp_rules ?_)
  rcases hq with ⟨e, q⟩ | ⟨e, q⟩
  · rw [e]; exact wpAny_pure q
  · rw [e]; exact wpAny_pure q

/-- what the reader of a pattern finds in the heap -/
structure PatAt (h : Heap) (P : Addr) (code : List Int) : Prop where
  at_ : ∃ C o oc vs n, h.get? P = some o ∧ o.cls = .type "re.Pattern" ∧ o.dict = none ∧ o.data = .fields vs ∧ vs.getD 6 .none = .int 0 0 ∧ vs.getD 2 .none = .int 0 0 ∧ vs.getD 5 .none = .ref C ∧ h.get? C = some oc ∧ oc.data = .seq (code.map fun w => Value.int w 0).toArray n ∧ oc.cls = .type "tuple"
theorem PatAt.keeps {h h' : Heap} {P : Addr} {code : List Int} (X : PatAt h P code) (k : ∀ b o, h.get? b = some o → h'.get? b = some o) : PatAt h' P code := by
  obtain ⟨C, o, oc, vs, n, a, r1, r2, r3, r4, r5, r6, b, r7, r8⟩ := X
  exact ⟨C, o, oc, vs, n, k _ _ a, r1, r2, r3, r4, r5, r6, k _ _ b, r7, r8⟩
def targetOf (P : Addr) (v : Value) (code : List Int) (text : Array Nat) : ReTarget := { pattern := .ref P, string := v, code := (code.map (·.toNat)).toArray, text, kind := 0, groups := 0, pos := 0, lim := text.size }
theorem wp_target {Q : ReTarget → Shared → Prop} {P : Addr} {code : List Int} {x : PySem.Str} {t : Tok} (X : PatAt s.heap P code) (hq : Q (targetOf P (.str x t) code x.cps) s) : wpAny M A (reWholeTarget (.ref P) (.str x t)) Q E s := by
  obtain ⟨C, o, oc, vs, n, a, r1, r2, r3, r4, r5, r6, b, r7, r8⟩ := X
  unfold reWholeTarget
  refine wpAny_bind (wpAny_fieldsOf a r3 ?_)
  refine wpAny_bind (m := reTextOf (.str x t)) (wpAny_pure ?_)
  dsimp only
  rw [r4]
  refine wpAny_bind (wpAny_pure ?_)
  rw [r5, r6]
  refine wpAny_bind ?_
  unfold reRawItems
  refine wpAny_bind (wpAny_seqItems b r7 (wpAny_pure (wpAny_pure ?_)))
  have e : Array.map (fun x : Int => x.toNat) (Array.map reRawOf ((some (List.map (fun w => Value.int w 0) code).toArray).getD #[])) = (code.map (·.toNat)).toArray := by
    simp [reRawOf, Function.comp_def]
  rw [e]
  exact hq
theorem wp_push {D : Addr} {its : Array Value} {n : Nat} {x : Value} {Q : Unit → Shared → Prop} (ho : s.heap.get? D = some (W.listOf its n)) (hsz : its.size ≤ 1000)
    (h : ∀ h', Heap.SameBut D s.heap h' → h'.get? D = some (W.listOf (its.push x) (n + 1)) → Q () { s with heap := h' }) : wpAny M A (updateSeq D (·.push x)) Q E s := by
  have hz : its.size ≤ sizeLine := Nat.le_trans hsz (by decide)
  refine wpAny_updateSeq ho rfl (h _ (Heap.SameBut.update ..) ?_) hz
  rw [Heap.get?_update_self _ ho (by rw [mapSeq_push]; rfl), mapSeq_push]
def loopP (code text : Array Nat) (repl : PySem.Str) : Nat → Nat → Nat → Bool → List PySem.Str → Option (List PySem.Str)
  | 0, _, _, _, _ => none
  | n + 1, done, start, must, acc => match driveP 300 (Sre.forSearch code text 0 start text.size must) with
    | none => none
    | some m => match m.outcome with
      | some .matched => loopP code text repl n m.handed m.handed (m.handed == m.start) (acc ++ (if done < m.start then [⟨text.extract done m.start⟩] else []) ++ [repl])
      | some .failed => some (acc ++ (if done < text.size then [⟨text.extract done text.size⟩] else []))
      | _ => none
end
section
variable {w : World} {A : Around} {R : Result → Shared → Prop}
theorem sub_loop {P D : Addr} {code : List Int} {x repl : PySem.Str} {t tr : Tok} : ∀ (k : Nat) (s : Shared) (cnt done start : Nat) (must : Bool) (acc ys : List PySem.Str) (vs : List Value) (nn : Nat),
    loopP (code.map (·.toNat)).toArray x.cps repl k done start must acc = some ys → PatAt s.heap P code → s.heap.get? D = some (W.listOf vs.toArray nn) → StrsAre vs acc → acc.length + 2 * k ≤ 900 → x.length ≤ 1000 → repl.length ≤ 1000 → (∀ y ∈ acc, y.length ≤ 1000) →
    (∀ h' tk t', (∀ b o, b ≠ D → s.heap.get? b = some o → h'.get? b = some o) → R (.ok (.ret (.str (Txt.join (Str.ofString "") ys) t'))) { s with heap := h', toks := tk }) →
    codeAny (model prog w) A (.builtin "re.Pattern.sub.loop" ⟨[.ref P, .str x t, .str repl tr, rawInt 0, rawInt 0, rawInt cnt, rawInt done, rawInt start, .bool must, .ref D, .bool false], []⟩) R s
  | 0, _, _, _, _, _, _, _, _, _, h, _, _, _, _, _, _, _, _ => by cases h
  | k + 1, s, cnt, done, start, must, acc, ys, vs, nn, h, X, hD, hvs, hk, hx, hr, hacc, hR => by
    refine codeAny_builtin entry_loop ?_
    show wpAny _ _ (reWholeTarget (.ref P) (.str x t) >>= _) _ _ s
    refine wpAny_bind (wp_target X ?_)
    refine wpAny_bind (m := reLiteralCannotBeTurned (.str repl tr)) (wpAny_pure ?_)
    have hxs : x.cps.size = x.length := rfl
    have cut_len : ∀ b e, (⟨x.cps.extract b e⟩ : PySem.Str).length ≤ 1000 := fun b e => by
      show (x.cps.extract b e).size ≤ 1000
      rw [Array.size_extract]
      omega
    have hlen : vs.toArray.size = acc.length := by rw [List.size_toArray, hvs.length]
    have slice : ∀ {M : Model} {A : Around} {E : Value → Shared → Prop} {s' : Shared} {b e : Nat} {Q : Value → Shared → Prop}, Q (.str ⟨x.cps.extract b e⟩ s'.toks) { s' with toks := s'.toks + 1 } → wpAny M A (reSlice x.cps 0 b e) Q E s' :=
      fun {M A E s' b e Q} hq => wpAny_mkStr hq (Nat.le_trans (cut_len b e) (by decide))
    dsimp only
    refine wpAny_bind ?_
    rw [if_neg (by simp)]
    unfold loopP at h
    cases hm : driveP 300 (Sre.forSearch (List.map (fun x => x.toNat) code).toArray x.cps 0 start x.cps.size must) with
    | none => rw [hm] at h; cases h
    | some m =>
      rw [hm] at h
      dsimp only at h
      have hm' : driveP 300 (Sre.forSearch (targetOf P (Value.str x t) code x.cps).code (targetOf P (Value.str x t) code x.cps).text (targetOf P (Value.str x t) code x.cps).groups (start : Int).toNat (targetOf P (Value.str x t) code x.cps).lim must) = some m := by
        rw [Int.toNat_natCast]; exact hm
      unfold reNextFound
      cases ho : m.outcome with
      | none => rw [ho] at h; cases h
      | some oc =>
        rw [ho] at h
        cases oc with
        | stuck _ => cases h
        | matched =>
          dsimp only at h
          refine wp_runToEnd hm' (by decide) (.inl ⟨ho, ?_⟩)
          dsimp only
          have tail : ∀ (s₁ : Shared) (vs' : List Value) (acc' : List PySem.Str) (nn' : Nat), (∃ h₁ tk₁, s₁ = { s with heap := h₁, toks := tk₁ } ∧ Heap.SameBut D s.heap h₁) → s₁.heap.get? D = some (W.listOf vs'.toArray nn') → StrsAre vs' acc' → acc'.length ≤ acc.length + 1 → (∀ y ∈ acc', y.length ≤ 1000) →
              loopP (List.map (fun x => x.toNat) code).toArray x.cps repl k m.handed m.handed (m.handed == m.start) (acc' ++ [repl]) = some ys →
              wpAny (model prog w) (A.under (Code.builtin "re.Pattern.sub.loop" ⟨[Value.ref P, Value.str x t, Value.str repl tr, rawInt 0, rawInt 0, rawInt cnt, rawInt done, rawInt start, Value.bool must, Value.ref D, Value.bool false], []⟩))
                (do
                  let _ ← updateSeq D fun x => x.push (Value.str repl tr)
                  again (Code.builtin "re.Pattern.sub.loop" ⟨[Value.ref P, Value.str x t, Value.str repl tr, rawInt 0, rawInt 0, rawInt (cnt + 1), rawInt m.handed, rawInt m.handed, Value.bool (m.handed == m.start), Value.ref D, Value.bool false], []⟩))
                (fun fin s' => match fin with | Fin.done f => R (Except.ok f) s' | Fin.again c' => c'.quiet = true ∧ codeAny (model prog w) A c' R s') (fun e s' => R (Except.error e) s') s₁ := by
            rintro s₁ vs' acc' nn' ⟨h₁, tk₁, rfl, hsb⟩ hD' hvs' hl' hacc' hloop
            refine wpAny_bind (wp_push hD' (by rw [List.size_toArray, hvs'.length]; omega) fun h₂ hs₂ hD₂ => ?_)
            refine wpAny_pure ⟨plainId_quiet (by decide +kernel) _, ?_⟩
            have keep : ∀ b o, b ≠ D → s.heap.get? b = some o → h₂.get? b = some o := fun b o hb e => (hs₂.2 b hb).trans ((hsb.2 b hb).trans e)
            have hPD : ∀ {q : Addr} {o : Obj}, s.heap.get? q = some o → o.cls ≠ .type "list" → q ≠ D := fun e hc hq => by
              rw [hq, hD] at e
              cases e
              exact hc rfl
            have X₂ : PatAt h₂ P code := by
              obtain ⟨C, o, oc, pv, n, a, r1, r2, r3, r4, r5, r6, b, r7, r8⟩ := X
              exact ⟨C, o, oc, pv, n, keep _ _ (hPD a (by rw [r1]; decide)) a, r1, r2, r3, r4, r5, r6, keep _ _ (hPD b (by rw [r8]; decide)) b, r7, r8⟩
            rw [push_arr] at hD₂
            have := sub_loop (P := P) (D := D) (code := code) (x := x) (repl := repl) (t := t) (tr := tr) k { s with heap := h₂, toks := tk₁ } (cnt + 1) m.handed m.handed (m.handed == m.start) (acc' ++ [repl]) ys _ _ hloop X₂ hD₂ (strs_push hvs' repl tr) (by rw [List.length_append, List.length_singleton]; omega) hx hr
              (fun y hy => (List.mem_append.mp hy).elim (hacc' y) fun q => by rw [List.mem_singleton.mp q]; exact hr)
              (fun h' tk t' kk => hR h' tk t' fun b o hb e => kk b o hb (keep b o hb e))
            exact this
          by_cases hd : done < m.start
          · rw [if_pos (by rw [Int.toNat_natCast]; exact hd)]
            rw [if_pos hd] at h
            refine wpAny_bind (slice ?_)
            refine wpAny_bind (wp_push hD (by rw [hlen]; omega) fun h₁ hs₁ hD₁ => ?_)
            rw [push_arr] at hD₁
            refine tail _ _ _ _ ⟨h₁, _, rfl, hs₁⟩ hD₁ (strs_push hvs _ _) (by rw [List.length_append, List.length_singleton]; exact Nat.le_refl _) (fun y hy => (List.mem_append.mp hy).elim (hacc y) fun q => by rw [List.mem_singleton.mp q]; exact cut_len _ _) ?_
            rw [Int.toNat_natCast]
            exact h
          · rw [if_neg (by rw [Int.toNat_natCast]; exact hd)]
            rw [if_neg hd, List.append_nil] at h
            exact tail _ _ _ _ ⟨s.heap, s.toks, rfl, ⟨rfl, fun _ _ => rfl⟩⟩ hD hvs (Nat.le_succ _) hacc h
        | failed =>
          dsimp only at h
          refine wp_runToEnd hm' (by decide) (.inr ⟨ho, ?_⟩)
          dsimp only
          have e0 : (⟨x.cps.extract 0 0⟩ : PySem.Str) = Str.ofString "" := PySem.Str.ext' (by simp; rfl)
          have tail : ∀ (s₁ : Shared) (vs' : List Value) (nn' : Nat), (∃ h₁ tk₁, s₁ = { s with heap := h₁, toks := tk₁ } ∧ Heap.SameBut D s.heap h₁) → s₁.heap.get? D = some (W.listOf vs'.toArray nn') → StrsAre vs' ys → ys.length ≤ 1000 → (∀ y ∈ ys, y.length ≤ 1000) →
              wpAny (model prog w) (A.under (Code.builtin "re.Pattern.sub.loop" ⟨[Value.ref P, Value.str x t, Value.str repl tr, rawInt 0, rawInt 0, rawInt cnt, rawInt done, rawInt start, Value.bool must, Value.ref D, Value.bool false], []⟩))
                (do
                  let joiner ← reSlice x.cps 0 0 0
                  let its ← seqItems? (Value.ref D)
                  if (its.getD #[]).isEmpty = true then do
                    let text ← pure joiner
                    ret text
                  else do
                    let text ← call (Value.builtin "str.join") [joiner, Value.ref D]
                    ret text)
                (fun fin s' => match fin with | Fin.done f => R (Except.ok f) s' | Fin.again c' => c'.quiet = true ∧ codeAny (model prog w) A c' R s') (fun e s' => R (Except.error e) s') s₁ := by
            rintro s₁ vs' nn' ⟨h₁, tk₁, rfl, hsb⟩ hD' hvs' hl' hys
            refine wpAny_bind (slice ?_)
            refine wpAny_bind (wpAny_seqItems hD' rfl ?_)
            rw [e0]
            have keep : ∀ b o, b ≠ D → s.heap.get? b = some o → h₁.get? b = some o := fun b o hb e => (hsb.2 b hb).trans e
            by_cases hem : ((some vs'.toArray).getD #[]).isEmpty = true
            · rw [if_pos hem]
              have : vs' = [] := by simpa using hem
              subst this
              cases hvs'
              exact wpAny_pure (hR h₁ _ _ keep)
            · rw [if_neg hem]
              refine wpAny_bind (join_list ⟨_, hD', rfl, _, rfl⟩ hvs' ?_ ?_)
              · have h1 := sum_le 1000 _ hys
                have h3 : (Str.ofString "").length = 0 := by decide
                rw [h3]
                have : ys.length * 1000 ≤ 1000 * 1000 := Nat.mul_le_mul_right _ hl'
                omega
              · intro t' k
                exact wpAny_pure (hR h₁ _ _ keep)
          by_cases hd : done < x.cps.size
          · rw [if_pos (by rw [Int.toNat_natCast]; exact hd)]
            rw [if_pos hd] at h
            cases h
            refine wpAny_bind (slice ?_)
            refine wpAny_bind (wp_push hD (by rw [hlen]; omega) fun h₁ hs₁ hD₁ => ?_)
            rw [push_arr] at hD₁
            refine tail _ _ _ ⟨h₁, _, rfl, hs₁⟩ hD₁ ?_ (by rw [List.length_append, List.length_singleton]; omega) (fun y hy => (List.mem_append.mp hy).elim (hacc y) fun q => by rw [List.mem_singleton.mp q]; exact cut_len _ _)
            rw [Int.toNat_natCast]
            exact strs_push hvs _ _
          · rw [if_neg (by rw [Int.toNat_natCast]; exact hd)]
            rw [if_neg hd, List.append_nil] at h
            cases h
            exact tail _ _ _ ⟨s.heap, s.toks, rfl, ⟨rfl, fun _ _ => rfl⟩⟩ hD hvs (by omega) hacc
theorem sub_call {s : Shared} {Q : Value → Shared → Prop} {E : Value → Shared → Prop} {P : Addr} {code : List Int} {x repl : PySem.Str} {t tr : Tok} {ys : List PySem.Str} (X : PatAt s.heap P code) (hno : repl.cps.contains 92 = false)
    (h : loopP (code.map (·.toNat)).toArray x.cps repl 100 0 0 false [] = some ys) (hx : x.length ≤ 1000) (hr : repl.length ≤ 1000)
    (hQ : ∀ h' tk t', (∀ b o, s.heap.get? b = some o → h'.get? b = some o) → Q (.str (Txt.join (Str.ofString "") ys) t') { s with heap := h', toks := tk }) :
    wpAny (model prog w) A (call (.builtin "re.Pattern.sub") [.ref P, .str repl tr, .str x t]) Q E s := by
  have hT : s.TypeIs (.ref P) "re.Pattern" := by
    obtain ⟨C, o, oc, vs, n, a, r1, _⟩ := X
    exact ⟨o, a, r1⟩
  refine wpAny_call (codeAny_call_builtin slot_sub.plain entry_sub (slot_sub.check _ _ _ _ _ _ _ _ hT (args_sub _ _ _) ?_))
  show wpAny _ _ (reSubstitute "re.Pattern.sub" "sub" false ⟨[.ref P, .str repl tr, .str x t], []⟩) _ _ s
  unfold reSubstitute
  refine wpAny_bind (m := reNamed _ _ _ _ _ _) (wpAny_pure (a := [some (Value.str repl tr), some (Value.str x t), none]) ?_)
  dsimp only
  refine wpAny_bind (wpAny_pure ?_)
  refine wpAny_bind (wpAny_specialOf (typeIs_str _ _ _) str_nocall ?_)
  rw [if_neg (by simp)]
  refine wpAny_bind (m := asStr? (.str repl tr)) (wpAny_pure ?_)
  refine wpAny_bind (wpAny_pure ?_)
  rw [if_neg (by simp), if_pos (by rw [hno]; rfl)]
  refine wpAny_bind (wpAny_pure ?_)
  refine wpAny_bind (wpAny_holding (wp_target X ?_))
  rw [if_neg (by simp)]
  refine wpAny_bind (wpAny_newList ?_ (by decide))
  refine wpAny_pure ⟨plainId_quiet (by decide +kernel) _, ?_⟩
  have kp : ∀ b o, s.heap.get? b = some o → (s.heap.push (W.listOf #[] 0)).get? b = some o := fun b o e => Heap.get?_push_of_some _ e
  refine sub_loop 100 { s with heap := s.heap.push (W.listOf #[] 0) } 0 0 0 false [] ys [] 0 h (X.keeps kp) (Heap.get?_push_size _ rfl) .nil (by decide) hx hr (fun _ h => nomatch h) ?_
  intro h' tk t' hk
  exact hQ h' tk t' fun b o e => hk b o (Nat.ne_of_lt (Heap.lt_size e)) (kp b o e)
end
end Mine
end

-- Re2
section
open PySem PySem.W PyProof.Rows in
theorem Mine.resetRe2 : True ∧ True := by
  w_top off
  walk1
  all_goals exact True.intro
end
section
open PySem PySem.W PyProof.Rows PySem.Calls
namespace Mine
def code1 : List Int := [14, 4, 0, 1, 1, 6, 1, 16, 46, 1]
def code2 : List Int := [14, 9, 4, 1, 2, 16, 10, 16, 13, 0, 7, 7, 16, 13, 16, 10, 15, 18, 5, 16, 10, 15, 13, 11, 16, 13, 5, 5, 0, 16, 10, 1, 15, 2, 0, 1]
def ends : Nat → PySem.Str
  | 0 => Str.ofString "\n" | 1 => Str.ofString "\r" | _ => Str.ofString "\r\n"
def dataOf (u l e : Nat) : PySem.Str := ((dots u ++ ends e) ++ dots l) ++ ends e
def sentOf (u l : Nat) : PySem.Str := ((dots u ++ Str.ofString "\r\n") ++ dots l) ++ Str.ofString "\r\n"
def oneP (code : List Int) (x repl y : PySem.Str) : Bool := match loopP (code.map (·.toNat)).toArray x.cps repl 100 0 0 false [] with
  | some ys => Txt.join (Str.ofString "") ys == y
  | none => false
def midOf (u l : Nat) : PySem.Str := sentOf u l

theorem ok2 : (List.range 3).all (fun e => (List.range' 1 3).all fun u => (List.range' 1 3).all fun l => oneP code2 (dataOf u l e) (Str.ofString "\r\n") (sentOf u l)) = true := by decide +kernel

theorem ok1 : (List.range' 1 3).all (fun u => (List.range' 1 3).all fun l => oneP code1 (sentOf u l) (Str.ofString "..") (sentOf (u + 1) (l + 1))) = true := by decide +kernel
end Mine
end

-- P3
section
open PySem PySem.W PyProof.Rows in
theorem Mine.resetP3 : True ∧ True := by
  w_top off
  walk1
  all_goals exact True.intro
end
section
open PySem PySem.W PyProof.Rows PySem.Calls
namespace Mine

theorem oneP_of {code : List Int} {x repl y : PySem.Str} (h : oneP code x repl y = true) : ∃ ys, loopP (code.map (·.toNat)).toArray x.cps repl 100 0 0 false [] = some ys ∧ Txt.join (Str.ofString "") ys = y := by
  unfold oneP at h
  split at h
  · rename_i ys e
    exact ⟨ys, e, eq_of_beq h⟩
  · cases h
theorem two_of {u l e : Nat} (hu : 1 ≤ u) (hu' : u ≤ 3) (hl : 1 ≤ l) (hl' : l ≤ 3) (he : e < 3) : oneP code2 (dataOf u l e) (Str.ofString "\r\n") (sentOf u l) = true := by
  have h := List.all_eq_true.mp ok2 e (by rw [List.mem_range]; exact he)
  have h := List.all_eq_true.mp h u (by rw [List.mem_range'_1]; omega)
  exact List.all_eq_true.mp h l (by rw [List.mem_range'_1]; omega)
theorem one_of {u l : Nat} (hu : 1 ≤ u) (hu' : u ≤ 3) (hl : 1 ≤ l) (hl' : l ≤ 3) : oneP code1 (sentOf u l) (Str.ofString "..") (sentOf (u + 1) (l + 1)) = true := by
  have h := List.all_eq_true.mp ok1 u (by rw [List.mem_range'_1]; omega)
  exact List.all_eq_true.mp h l (by rw [List.mem_range'_1]; omega)
theorem pat1 {w : World} {h : Heap} (X : (Mine.hd.heap_39 w.params).In h) : PatAt h 81 code1 := ⟨80, _, _, _, _, X 81 _ rfl, rfl, rfl, rfl, rfl, rfl, rfl, X 80 _ rfl, rfl, rfl⟩
theorem pat2 {w : World} {h : Heap} (X : (Mine.hd.heap_39 w.params).In h) : PatAt h 86 code2 := ⟨85, _, _, _, _, X 86 _ rfl, rfl, rfl, rfl, rfl, rfl, rfl, X 85 _ rfl, rfl, rfl⟩
theorem pat_method {w : World} {A : Around} {E : Value → Shared → Prop} {s : Shared} {P : Addr} {code : List Int} {pl : Sem Bool} {Q : Value × List Value → Shared → Prop} (X : PatAt s.heap P code) (h : Q (.builtin "re.Pattern.sub", [.ref P]) s) :
    wpAny (model prog w) A (getMethod (.ref P) (Str.ofString "sub") pl) Q E s := by
  obtain ⟨C, o, oc, vs, n, a, r1, r2, _⟩ := X
  exact getMethod_builtin ⟨o, a, r1⟩ plainAttrs_pat slot_sub type_sub (fun q e => by cases e; exact ⟨o, a, r2⟩) h
theorem ends_len (e : Nat) : (ends e).length ≤ 2 := by
  unfold ends
  split <;> decide
theorem data_len {u l e : Nat} (hu : u ≤ 3) (hl : l ≤ 3) : (dataOf u l e).length ≤ 1000 := by
  unfold dataOf
  have := ends_len e
  simp only [PySem.Str.length_append, dots_len]
  omega
theorem sent_len {u l : Nat} (hu : u ≤ 3) (hl : l ≤ 3) : (sentOf u l).length ≤ 1000 := by
  unfold sentOf
  have : (Str.ofString "\r\n").length = 2 := by decide
  simp only [PySem.Str.length_append, dots_len]
  omega
section
local macro_rules | `(tactic| walk_at "getMethod ref") => `(tactic| first | refine pat_method (PatAt.keeps (pat1 (by assumption)) (Fr.keep (by assumption))) ?_ | refine pat_method (PatAt.keeps (pat2 (by assumption)) (Fr.keep (by assumption))) ?_)
local macro_rules | `(tactic| walk_at "call builtin:re.Pattern.sub") => `(tactic| refine hold_out ?_)
theorem quo1 {w : World} {A : Around} {s : Shared} {R : Result → Shared → Prop} {p : Program} {loose : List PySem.Str} {mean : ExcName → Option Value} {mg mb : PySem.Str → Option Value}
    (X : (Mine.hd.heap_39 w.params).In s.heap) (T : Top p loose mean mg mb s.heap) (hroom : A.depth < recursionLimit) (hh : A.handled = none) {u l e : Nat} {t : Tok} (hu : 1 ≤ u) (hu' : u ≤ 3) (hl : 1 ≤ l) (hl' : l ≤ 3) (he : e < 3)
    (hR : ∀ h' tk t', (∀ b o, s.heap.get? b = some o → h'.get? b = some o) → R (.ok (.ret (.str (sentOf (u + 1) (l + 1)) t'))) { s with heap := h', toks := tk }) :
    codeAny (model prog w) A (.call (.ref 93) ⟨[.str (dataOf u l e) t], []⟩) R s := by
  obtain ⟨hd, d, fr, gu, un⟩ := A
  cases hh
  refine enterF [(Str.ofString "data", .str (dataOf u l e) t)] X T hroom rfl rfl (BindsTo.of_eq rfl) (locs rfl) ?_ rfl rfl rfl (by decide)
  intro h₁ tk F' N'
  k_steps
  refine hold_in ?_
  obtain ⟨ys, e1, e2⟩ := oneP_of (two_of hu hu' hl hl' he)
  refine sub_call (PatAt.keeps (pat2 X) F'.keep) (by decide +kernel) e1 (data_len hu' hl') (by decide) ?_
  intro h₂ tk₂ t₂ hk₂
  rw [e2]
  have F₂ := F'.keeps hk₂
  clear F' N'
  have N₂ : News s.heap s.heap.objs.size h₂ [] := News.nil
  k_steps
  refine hold_in ?_
  obtain ⟨zs, e3, e4⟩ := oneP_of (one_of hu hu' hl hl')
  refine sub_call (PatAt.keeps (pat1 X) F₂.keep) (by decide +kernel) e3 (sent_len hu' hl') (by decide) ?_
  intro h₃ tk₃ t₃ hk₃
  rw [e4]
  have F₃ := F₂.keeps hk₃
  k_steps
  exact hR _ _ _ F₃.keep
end
end Mine
end

-- Ops
section
open PySem PySem.W PyProof.Rows in
theorem Mine.resetOps : True ∧ True := by
  w_top off
  walk1
  all_goals exact True.intro
end
section
open PySem PySem.W PyProof.Rows PySem.Calls PySem.Spec PySem.SeqAt
namespace Mine
theorem readsAll_strs {h : Heap} : ∀ {vs : List Value} {ns : List PySem.Str}, StrsAre vs ns → ReadsAll h vs (ns.map PyData.str) []
  | _, _, .nil => .nil
  | _, _, .cons k t r => by
    have := ReadsAll.cons (Reads.str (h := h) k t) (readsAll_strs (h := h) r)
    simpa using this
theorem reads_strs {h : Heap} {a : Addr} {vs : List Value} {ns : List PySem.Str} (hl : h.IsList a vs.toArray) (hi : StrsAre vs ns) : Reads h (.ref a) (.list (ns.map PyData.str)) [a] := by
  obtain ⟨o, ho, hc, n, hd⟩ := hl
  exact Reads.list ho hc hd (by simpa using readsAll_strs hi)
theorem canLay_strs : ∀ ns : List PySem.Str, (∀ x ∈ ns, PyData.strOk x = true) → PyData.canLayAll0 (ns.map PyData.str) = true
  | [], _ => by simp [PyData.canLayAll0]
  | n :: r, h => by
    have h1 := h n (.head _)
    have h2 := canLay_strs r fun x hx => h x (.tail _ hx)
    simp [PyData.canLayAll0, PyData.canLay0, h1, h2]
theorem depth_strs : ∀ ns : List PySem.Str, PyData.depthAll (ns.map PyData.str) ≤ 1
  | [] => by simp [PyData.depthAll]
  | n :: r => by
    have := depth_strs r
    simp only [List.map_cons, PyData.depthAll, PyData.depth]
    omega
theorem shaped_strs (ns : List PySem.Str) (hok : ∀ x ∈ ns, PyData.strOk x = true) : shaped (.list (ns.map PyData.str)) = true := by
  have h1 := depth_strs ns
  have h2 : PyData.depth (.list (ns.map PyData.str)) ≤ 64 := by simp only [PyData.depth]; omega
  show (PyData.canLay0 (.list (ns.map PyData.str)) && decide (PyData.depth (.list (ns.map PyData.str)) ≤ 64)) = true
  rw [Bool.and_eq_true]
  exact ⟨by simp only [PyData.canLay0]; exact canLay_strs ns hok, decide_eq_true h2⟩
theorem noMix_strs : ∀ ns ms : List PySem.Str, noMixAll (ns.map PyData.str) (ms.map PyData.str) = true
  | [], [] => by simp [noMixAll]
  | [], _ :: _ => by simp [noMixAll]
  | _ :: _, [] => by simp [noMixAll]
  | _ :: r, _ :: q => by simp [noMixAll, noMix, noMix_strs r q]
theorem same_strs : ∀ ns : List PySem.Str, PySem.Spec.sameAll (ns.map PyData.str) (ns.map PyData.str) = true
  | [] => by simp [PySem.Spec.sameAll]
  | n :: r => by simp [PySem.Spec.sameAll, PySem.Spec.same, same_strs r]
section
variable {prog : Program} {w : World} {A : Around} {E : Value → Shared → Prop} {s : Shared} {Q : Value → Shared → Prop}
theorem ne_same_strs {a b : Addr} {vs us : List Value} {ns : List PySem.Str} (hl : s.heap.IsList a vs.toArray) (hi : StrsAre vs ns) (hl' : s.heap.IsList b us.toArray) (hi' : StrsAre us ns) (hok : ∀ x ∈ ns, PyData.strOk x = true) (hu : A.units + 64 < cLine)
    (h : Q (.bool false) s) : wpAny (model prog w) A (compareOp .NotEq (.ref a) (.ref b)) Q E s :=
  ne_dataH_same (reads_strs hl hi) (reads_strs hl' hi') (shaped_strs ns hok) (shaped_strs ns hok) hu (by simp only [noMix]; exact noMix_strs ns ns) (by simp only [PySem.Spec.same]; rw [same_strs]; exact h)
theorem item_nat {value slice : Expr} {D : Addr} {its : Array Value} {k : Int} {i : Nat} {v : Value} {u : Tok} (hl : s.heap.IsList D its) (hk : k = (i : Int)) (hi : i < 1000) (hv : its[i]? = some v) (h : Q v s)
    (hs : subscripted slice false (.ref D) (.int k u) = operate [.ref D, .int k u] (getItem (.ref D) (.int k u)) := by with_unfolding_all rfl) :
    wpAny (model prog w) A (subscriptTail value slice (.ref D) (.int k u)) Q E s := by
  subst hk
  exact tail_any hl.typeIs slot_list_getitem.lookup (wpAny_getItem_list hl (by omega) (by omega) (by rw [Int.toNat_natCast]; exact hv) h) hs
end
end Mine
end

-- Kw
section
open PySem PySem.W PyProof.Rows in
theorem Mine.resetKw : True ∧ True := by
  w_top off
  walk1
  all_goals exact True.intro
end
section
open PySem PySem.W PyProof.Rows PySem.Calls
namespace Mine
theorem wpAny_keep' {α : Type} {M : Model} {A : Around} {E : Value → Shared → Prop} {s : Shared} {vs : List Value} {m : Sem α} {Q : α → Shared → Prop} (h : wpAny M A m Q E s) : wpAny M A (m.keep vs) Q E s := Calls.wpAny_keep h
theorem dict_iter : typeLookup (.type "dict") "__iter__" = pure (some (.builtin "dict.__iter__")) := by rw [typeLookup_type, builtinLookup_eq_fast]; kernel_rfl
theorem dict_dict : isSubtype (.type "dict") (.type "dict") = pure true := by rw [isSubtype_type]; kernel_rfl
abbrev dict0 : Obj := { cls := .type "dict", data := .dict #[] }
theorem arr0 {β : Type} (b : β) (f : DictEntry → β → Sem (ForInStep β)) : forIn (#[] : Array DictEntry) b f = pure b := by simp
section
variable {M : Model} {A : Around} {s : Shared}
theorem onR0 {α : Type} {m : Sem α} {k : Value → Sem Unit} {Q : α → Shared → Prop} {E : Value → Shared → Prop} (h : wpAny M A m Q NoE s) : wpAny M A (m.onRaise k) Q E s := wpAny_onRaise (wpAny_mono h (fun _ _ x => x) fun _ _ x => x.elim)
theorem try0 {α : Type} {m : Sem α} {k : Value → Sem α} {Q : α → Shared → Prop} {E : Value → Shared → Prop} (h : wpAny M A m Q NoE s) : wpAny M A (m.tryCatch k) Q E s := wpAny_tryCatch (m := m) (k := k) (wpAny_mono h (fun _ _ x => x) fun _ _ x => x.elim)
theorem merge0 {d e : Addr} {Q : Unit → Shared → Prop} (hd : s.heap.get? d = some dict0) (he : s.heap.get? e = some dict0) (hes : (e == sysModules) = false) (h : Q () s) : wpAny M A (mergeMapping d (.ref e) true) Q NoE s := by
  have hT : s.TypeIs (.ref e) "dict" := ⟨_, he, rfl⟩
  unfold mergeMapping
  refine wpAny_bind (wpAny_isInstance hT dict_dict ?_)
  rw [if_pos rfl]
  refine wpAny_bind (wpAny_specialOf hT dict_iter ?_)
  refine wpAny_bind (wpAny_pure ?_)
  rw [beq_self_eq_true]
  dsimp only
  rw [if_neg (by rw [hes]; exact Bool.false_ne_true)]
  refine wpAny_bind (wpAny_dictEntries hd rfl ?_)
  rw [if_pos (by rfl)]
  refine wpAny_bind (wpAny_dictEntries he rfl ?_)
  refine wpAny_bind (wpAny_of_eq (arr0 _ _) ?_)
  refine wpAny_bind (wpAny_dictEntries he rfl ?_)
  refine wpAny_bind (wpAny_dictEpoch he rfl ?_)
  exact wpAny_bind (wpAny_pure (wpAny_pure h))
theorem kwIn0 {f : Value} {d : Addr} {Q : List (PySem.Str × Value) → Shared → Prop} (hd : s.heap.get? d = some dict0) (h : Q [] s) : wpAny M A (keywordsIn f d) Q NoE s := by
  unfold keywordsIn
  refine wpAny_bind (wpAny_dictEntries hd rfl ?_)
  exact wpAny_bind (wpAny_of_eq (arr0 _ _) (wpAny_pure h))
theorem merged0 {f : Value} {e : Addr} {y : Sem Value} {Q : Addr → Shared → Prop} (he : s.heap.get? e = some dict0) (hes : (e == sysModules) = false)
    (hy : ∀ h' Q, (∀ b o, s.heap.get? b = some o → h'.get? b = some o) → Q (.ref e) { s with heap := h' } → wpAny M A y Q NoE { s with heap := h' })
    (h : ∀ h' d, (∀ b o, s.heap.get? b = some o → h'.get? b = some o) → h'.get? d = some dict0 → Q d { s with heap := h' }) : wpAny M A (mergedKeywords f [(none, y)]) Q NoE s := by
  have kp : ∀ b o, s.heap.get? b = some o → (s.heap.push dict0).get? b = some o := fun b o e => Heap.get?_push_of_some _ e
  have hd : (s.heap.push dict0).get? s.heap.objs.size = some dict0 := Heap.get?_push_size _ rfl
  unfold mergedKeywords
  refine wpAny_bind (wpAny_alloc ?_)
  refine wpAny_bind (wpAny_holding ?_)
  refine wpAny_bind (m := forIn _ _ _) ?_
  rw [List.forIn_cons]
  refine wpAny_bind ?_
  dsimp only
  refine wpAny_bind (wpAny_pure ?_)
  refine wpAny_bind (hy _ _ kp ?_)
  refine wpAny_bind (onR0 (wpAny_holding (try0 (onR0 (merge0 hd (kp _ _ he) hes ?_)))))
  refine wpAny_pure ?_
  refine wpAny_pure ?_
  refine wpAny_pure ?_
  exact wpAny_pure (h _ _ kp hd)
end
theorem callKw0 {w : World} {A : Around} {s : Shared} {Q : Value → Shared → Prop} {pos : Pos} {f e : Addr} {fo : Obj} {fd : FuncData} {x y : Sem Value} {v : Value} (hf : s.heap.get? f = some fo) (hfd : fo.data = .func fd)
    (he : s.heap.get? e = some dict0) (hes : (e == sysModules) = false)
    (hx : ∀ Q, Q [v] s → wpAny (model prog w) A (spliced [(false, x)]) Q NoE s)
    (hy : ∀ h' Q, (∀ b o, s.heap.get? b = some o → h'.get? b = some o) → Q (.ref e) { s with heap := h' } → wpAny (model prog w) A y Q NoE { s with heap := h' })
    (h : ∀ h', (∀ b o, s.heap.get? b = some o → h'.get? b = some o) → wpAny (model prog w) A (call (.ref f) [v] []) Q NoE { s with heap := h' }) :
    wpAny (model prog w) A (callWith pos (.ref f) [] [(false, x)] [(none, y)]) Q NoE s := by
  unfold callWith
  refine wpAny_bind (wpAny_holding ?_)
  unfold evalArgs
  refine wpAny_bind (m := spliced [(false, x)]) (hx _ ?_)
  refine wpAny_bind (wpAny_pure ?_)
  refine wpAny_holding ?_
  rw [if_neg (by simp)]
  refine wpAny_bind (merged0 he hes hy fun h' d kp hd => ?_)
  refine wpAny_bind (wpAny_pure ?_)
  refine wpAny_bind (wpAny_holding (kwIn0 hd ?_))
  refine wpAny_pure ?_
  refine wpAny_bind (wpAny_standAt ?_)
  refine wpAny_bind (m := keeperOf (.ref f)) ?_
  unfold keeperOf
  refine wpAny_bind (wpAny_load (kp _ _ hf) ?_)
  rw [hfd]
  refine wpAny_pure ?_
  show wpAny _ _ (callMarked starredCall (.ref f) [v] [] >>= fun r => holding [r] point >>= fun _ => pure r) _ _ _
  refine wpAny_bind ?_
  unfold callMarked
  exact Calls.wpAny_keep (wpAny_mono (h h' kp) (fun r s₂ hr => wpAny_bind (wpAny_holding (wpAny_point (wpAny_pure hr)))) fun _ _ x => x)
end Mine
end

-- P5
section
open PySem PySem.W PyProof.Rows in
theorem Mine.resetP5 : True ∧ True := by
  w_top off
  walk1
  all_goals exact True.intro
end
section
open PySem PySem.W PyProof.Rows PySem.Calls
namespace Mine
abbrev lookParams (p4 : Pos) : Arguments := { posonlyargs := [], args := [{ arg := Str.ofString "which", annotation := none, pos := p4 }], vararg := none, kwonlyargs := [], kw_defaults := [], kwarg := none, defaults := [] }
abbrev lookBody (p1 p2 p3 : Pos) : Expr := .Subscript (.Name (Str.ofString "sent") p1) (.Name (Str.ofString "which") p2) p3
abbrev lookScope : Scope := { kind := .function, names := [(Str.ofString "which", .local), (Str.ofString "sent", .free)], isGenerator := false, isCoroutine := false, more := [] }
/-- the lambda, its cell and the dict behind it -/
structure LookAt (h : Heap) (w : World) (lk : Addr) (f : PySem.Str → Option Value) : Prop where
  at_ : ∃ name qual pm c' ctv cs sd oc p1 p2 p3 p4, h.get? lk = some (kla_obj name qual (lookParams p4) (lookBody p1 p2 p3) lookScope [(Str.ofString "sent", cs)] pm c' ctv) ∧ h.CodeRec (.ref c') qual ∧ h.get? cs = some oc ∧ oc.data = .cell (some (.ref sd)) ∧ h.MapOf (strKind prog w) sd f
theorem LookAt.keeps {h h' : Heap} {w : World} {lk : Addr} {f : PySem.Str → Option Value} (X : LookAt h w lk f) (k : ∀ b o, h.get? b = some o → h'.get? b = some o) : LookAt h' w lk f := by
  obtain ⟨name, qual, pm, c', ctv, cs, sd, oc, p1, p2, p3, p4, a1, a2, a3, a4, o, es, ep, b1, b2⟩ := X
  exact ⟨name, qual, pm, c', ctv, cs, sd, oc, p1, p2, p3, p4, k _ _ a1, a2.keeps k, k _ _ a3, a4, o, es, ep, k _ _ b1, b2⟩
theorem look_spec {w : World} {A : Around} {s : Shared} {R : Result → Shared → Prop} {p : Program} {loose : List PySem.Str} {mean : ExcName → Option Value} {mg mb : PySem.Str → Option Value} {f : PySem.Str → Option Value} {lk : Addr} {x : PySem.Str} {t : Tok} {v : Value}
    (T : Top p loose mean mg mb s.heap) (hroom : A.depth < recursionLimit) (X : LookAt s.heap w lk f) (hv : f x = some v)
    (hR : ∀ h' tk, (∀ b o, s.heap.get? b = some o → h'.get? b = some o) → R (.ok (.ret v)) { s with heap := h', toks := tk }) :
    codeAny (model prog w) A (.call (.ref lk) ⟨[.str x t], []⟩) R s := by
  obtain ⟨name, qual, pm, c', ctv, cs, sd, oc, p1, p2, p3, p4, a1, a2, a3, a4, a5⟩ := X
  refine kla_callFunE hroom a1 rfl rfl rfl rfl a2 ?_
  have hb : bindArgs (kla_fn name qual (lookParams p4) (lookBody p1 p2 p3) lookScope [(Str.ofString "sent", cs)] pm (.ref c') ctv) ⟨[.str x t], []⟩ = pure [(Str.ofString "which", .str x t)] := rfl
  rw [hb]
  refine wpAny_pure ?_
  refine wpAny_newFunctionEnv (show ∀ x ∈ lookScope.names, x.2 ≠ .cell by decide) (locs rfl) (fun h₁ hns hsb => ⟨T.nolimit.fresh _ hsb, ?_⟩)
  have keep : ∀ b o, s.heap.get? b = some o → h₁.get? b = some o := fun b o e => hsb.extBut b o (Nat.ne_of_lt (Heap.lt_size e)) (Heap.get?_push_of_some _ e)
  refine kla_codeExpr ?_
  refine wpAny_mono (E := NoE) ?_ (fun _ _ h => h) (fun _ _ h => h.elim)
  obtain ⟨o, es, ep, b1, b2⟩ := a5
  have hm : h₁.MapOf (strKind prog w) sd f := ⟨o, es, ep, keep _ _ b1, b2⟩
  refine wpAny_Subscript_Name slot_dict_getitem.lookup ?_
  refine wpAny_Name (wpAny_loadName_free rfl rfl rfl ⟨oc, keep _ _ a3, a4⟩ ?_) (by decide)
  refine wpAny_Name (wpAny_loadName_local rfl rfl hns rfl ?_) (by decide)
  refine ⟨hm.typeIs, wpAny_getItem_of (strKind_is _ _ _ _) hm hv ?_⟩
  exact hR _ _ keep

section
local macro_rules | `(tactic| walk_at "callWith ref") => `(tactic| refine hold_out ?_)
theorem info_spec {w : World} {A : Around} {s : Shared} {R : Result → Shared → Prop} {p : Program} {loose : List PySem.Str} {mean : ExcName → Option Value} {mg mb : PySem.Str → Option Value} {f : PySem.Str → Option Value} {lk r : Addr} {x : PySem.Str} {t : Tok}
    (X : (Mine.hd.heap_39 w.params).In s.heap) (T : Top p loose mean mg mb s.heap) (hroom : A.depth + 1 < recursionLimit) (hh : A.handled = none) (hlk : LookAt s.heap w lk f) (hv : f x = some (.ref r))
    (hR : ∀ h' tk D, (∀ b o, s.heap.get? b = some o → h'.get? b = some o) → s.heap.get? D = none → h'.get? D = some { cls := .type "tuple", data := .seq #[.ref r, .ref r] } → R (.ok (.ret (.ref D))) { s with heap := h', toks := tk }) :
    codeAny (model prog w) A (.call (.ref 69) ⟨[.str x t, .ref lk], []⟩) R s := by
  obtain ⟨hd, d, fr, gu, un⟩ := A
  cases hh
  refine codeAny_call_function (Nat.lt_of_succ_lt hroom) (X 69 _ rfl) rfl rfl rfl rfl (codeRec_of X rfl) ?_
  have toBind : ∀ {α : Type} {M : Model} {A : Around} {t : Sem α} {t' : Sem α} {Q : α → Shared → Prop} {E : Value → Shared → Prop} {s : Shared}, t = t' → wpAny M A t' Q E s → wpAny M A t Q E s := fun e h => e ▸ h
  refine toBind (t' := alloc { cls := .type "dict", data := .dict #[] } >>= fun e => pure [(Str.ofString "name_index", .str x t), (Str.ofString "get_name", .ref lk), (Str.ofString "extrainfo", .ref e)]) rfl (wpAny_bind (wpAny_alloc (wpAny_pure ?_)))
  have k1 : ∀ b o, s.heap.get? b = some o → (s.heap.push { cls := .type "dict", data := .dict #[] }).get? b = some o := fun b o e => Heap.get?_push_of_some _ e
  have X1 := X.keeps k1
  have T1 := T.keeps k1
  have L1 := hlk.keeps k1
  have e1 : (s.heap.push { cls := .type "dict", data := .dict #[] }).get? s.heap.objs.size = some { cls := .type "dict", data := .dict #[] } := Heap.get?_push_size _ rfl
  have n1 : s.heap.get? s.heap.objs.size = none := Heap.get?_none_of_le (Nat.le_refl _)
  have hE : (s.heap.objs.size == sysModules) = false := by
    have h39 := Heap.lt_size (X 39 _ rfl)
    have : sysModules = 1 := rfl
    rw [this]
    exact beq_eq_false_iff_ne.mpr (Nat.ne_of_gt (Nat.lt_of_le_of_lt (by decide : 1 ≤ 39) h39))
  generalize s.heap.objs.size = E at *
  generalize hb : s.heap.push { cls := .type "dict", data := .dict #[] } = hB at *
  refine wpAny_newFunctionEnv (by decide) (locs rfl) (fun h₁ hns hsb => ⟨T1.nolimit.fresh _ hsb, codeAny_func ?_⟩)
  have keep : ∀ b o, hB.get? b = some o → h₁.get? b = some o := fun b o e => hsb.extBut b o (Nat.ne_of_lt (Heap.lt_size e)) (Heap.get?_push_of_some _ e)
  refine wpAny_mono (E := NoE) ?_ (fun _ _ h => h) (fun _ _ h => h.elim)
  have F' : Fr hB hB.objs.size h₁ _ := ⟨hns, keep, Nat.le_refl _⟩
  have N' : News hB hB.objs.size h₁ [] := News.nil
  clear hns hsb
  k_steps
  refine hold_in ?_
  obtain ⟨name, qual, pm, c', ctv, cs, sd, oc, p1, p2, p3, p4, a1, _⟩ := id L1
  refine callKw0 (v := .str x t) (e := E) (keep _ _ a1) rfl (keep _ _ e1) ?_ ?_ ?_ ?_
  · exact hE
  · intro Q hq
    refine wpAny_bind ?_
    refine wpAny_Name ?_ (by decide)
    refine wpAny_loadName_local rfl rfl F'.ns rfl ?_
    exact wpAny_bind (wpAny_pure (wpAny_bind (wpAny_holding (wpAny_pure (wpAny_pure hq)))))
  · intro h' Q kp hq
    have F2 := F'.keeps kp
    exact wpAny_bind (wpAny_Name (wpAny_loadName_local rfl rfl F2.ns rfl (wpAny_bind (wpAny_standAt (wpAny_pure hq)))) (by decide))
  · intro h' kp
    have F2 := F'.keeps kp
    have kB : ∀ b o, hB.get? b = some o → h'.get? b = some o := fun b o e => kp b o (keep b o e)
    refine wpAny_call (look_spec (T1.keeps kB) (by show d + 1 < recursionLimit; exact hroom) (L1.keeps kB) hv ?_)
    intro h₂ tk₂ k₂
    have F3 := F2.keeps k₂
    have N3 : News hB hB.objs.size h₂ [] := News.nil
    clear F2 F' N'
    k_steps
    rename_i D _ F4 N4 _
    refine hR _ _ D (fun b o e => F4.keep b o (k1 b o e)) ?_ (N4 _ (.head _)).1
    have := (N4 _ (.head _)).2.2
    cases q : s.heap.get? D with
    | none => rfl
    | some o => rw [k1 _ _ q] at this; cases this
end
end Mine
end

-- Olson
section
open PySem PySem.W PyProof.Rows in
theorem Mine.resetOlson : True ∧ True := by
  w_top off
  walk1
  all_goals exact True.intro
end
section
namespace Mine
def letters (k : Nat) : List Nat := (List.range 5).filter fun j => k / 2 ^ j % 2 == 1
def sumOf (f : Nat → Nat) (l : List Nat) : Nat := (l.map f).sum
def fitsAt (up lo : Nat → Nat) (k : Nat) : Bool := decide (sumOf up (letters k) % 3 = 0 ∧ sumOf lo (letters k) % 3 = 0)
def sgn (k : Nat) : Int := 1 - 2 * (((letters k).length % 2 : Nat) : Int)
def bal (up lo : Nat → Nat) : Nat → Int
  | 0 => 1
  | i + 1 => bal up lo i + (if fitsAt up lo (i + 1) = true then sgn (i + 1) else 0)
def polyP (x y : Int) : Int := (1 - x * x) * (1 - y * y)
def balP (up lo : Nat → Nat) : Nat → Int
  | 0 => 1
  | i + 1 => balP up lo i + sgn (i + 1) * polyP (sumOf up (letters (i + 1))) (sumOf lo (letters (i + 1)))
theorem sq3 (a : Nat) : ∃ q : Int, (a : Int) * a = 3 * q + (if a % 3 = 0 then 0 else 1) := by
  rcases (show a % 3 = 0 ∨ a % 3 = 1 ∨ a % 3 = 2 by omega) with h | h | h
  · refine ⟨3 * (a / 3 : Nat) * (a / 3 : Nat), ?_⟩
    rw [if_pos h]
    have e : (a : Int) = 3 * (a / 3 : Nat) := by omega
    generalize ((a / 3 : Nat) : Int) = t at *
    rw [e]; grind
  · refine ⟨3 * (a / 3 : Nat) * (a / 3 : Nat) + 2 * (a / 3 : Nat), ?_⟩
    rw [if_neg (by omega)]
    have e : (a : Int) = 3 * (a / 3 : Nat) + 1 := by omega
    generalize ((a / 3 : Nat) : Int) = t at *
    rw [e]; grind
  · refine ⟨3 * (a / 3 : Nat) * (a / 3 : Nat) + 4 * (a / 3 : Nat) + 1, ?_⟩
    rw [if_neg (by omega)]
    have e : (a : Int) = 3 * (a / 3 : Nat) + 2 := by omega
    generalize ((a / 3 : Nat) : Int) = t at *
    rw [e]; grind
theorem poly3 (a b : Nat) : ∃ q : Int, polyP a b = 3 * q + (if a % 3 = 0 ∧ b % 3 = 0 then 1 else 0) := by
  obtain ⟨p, hp⟩ := sq3 a
  obtain ⟨r, hr⟩ := sq3 b
  unfold polyP
  rw [hp, hr]
  by_cases h1 : a % 3 = 0 <;> by_cases h2 : b % 3 = 0 <;> simp only [h1, h2, if_true, if_false, and_true, and_false, and_self]
  · exact ⟨3 * p * r - p - r, by grind⟩
  · exact ⟨3 * p * r - r, by grind⟩
  · exact ⟨3 * p * r - p, by grind⟩
  · exact ⟨3 * p * r, by grind⟩
theorem bal3 (up lo : Nat → Nat) : ∀ i, ∃ q : Int, balP up lo i = 3 * q + bal up lo i
  | 0 => ⟨0, by simp [balP, bal]⟩
  | i + 1 => by
    obtain ⟨q, hq⟩ := bal3 up lo i
    obtain ⟨r, hr⟩ := poly3 (sumOf up (letters (i + 1))) (sumOf lo (letters (i + 1)))
    unfold balP bal
    rw [hq, hr]
    have e : (if fitsAt up lo (i + 1) = true then sgn (i + 1) else 0) = sgn (i + 1) * (if sumOf up (letters (i + 1)) % 3 = 0 ∧ sumOf lo (letters (i + 1)) % 3 = 0 then 1 else 0) := by
      unfold fitsAt
      by_cases h : sumOf up (letters (i + 1)) % 3 = 0 ∧ sumOf lo (letters (i + 1)) % 3 = 0
      · rw [if_pos (decide_eq_true h), if_pos h, Int.mul_one]
      · rw [if_neg (by simpa using h), if_neg h, Int.mul_zero]
    rw [e]
    generalize (if sumOf up (letters (i + 1)) % 3 = 0 ∧ sumOf lo (letters (i + 1)) % 3 = 0 then (1 : Int) else 0) = z
    generalize sgn (i + 1) = g
    exact ⟨q + g * r, by grind⟩
theorem letters_is (k : Nat) : letters k = (if k / 2 ^ 0 % 2 = 1 then [0] else []) ++ ((if k / 2 ^ 1 % 2 = 1 then [1] else []) ++ ((if k / 2 ^ 2 % 2 = 1 then [2] else []) ++ ((if k / 2 ^ 3 % 2 = 1 then [3] else []) ++ (if k / 2 ^ 4 % 2 = 1 then [4] else [])))) := by
  unfold letters
  have : List.range 5 = [0, 1, 2, 3, 4] := rfl
  rw [this]
  simp only [List.filter_cons, List.filter_nil, beq_iff_eq]
  repeat' split
  all_goals rfl
theorem balP_31 (up lo : Nat → Nat) : balP up lo 31 = 0 := by
  simp only [balP, sgn, polyP, letters_is, sumOf]
  simp
  generalize (up 0 : Int) = a0
  generalize (up 1 : Int) = a1
  generalize (up 2 : Int) = a2
  generalize (up 3 : Int) = a3
  generalize (up 4 : Int) = a4
  generalize (lo 0 : Int) = b0
  generalize (lo 1 : Int) = b1
  generalize (lo 2 : Int) = b2
  generalize (lo 3 : Int) = b3
  generalize (lo 4 : Int) = b4
  grind
theorem olson (up lo : Nat → Nat) : bal up lo 31 % 3 = 0 := by
  obtain ⟨q, hq⟩ := bal3 up lo 31
  rw [balP_31] at hq
  omega
end Mine
end

-- Pure2
section
open PySem PySem.W PyProof.Rows in
theorem Mine.resetPure2 : True ∧ True := by
  w_top off
  walk1
  all_goals exact True.intro
end
section
open PySem PySem.W PyProof.Rows PySem.Calls
namespace Mine
def okNames (st k : Nat) : Bool :=
  let ns := bitNames (k * 2 ^ st) 10
  let x := Txt.join (Str.ofString ", ") ns
  cutL [44, 32] (x.length + 2) x.cps.toList == ns.map (·.cps.toList) && x.cps.toList.all (· < 256)

theorem okNames_all : (List.range 6).all (fun st => (List.range' 1 31).all fun k => okNames st k) = true := by decide +kernel

theorem letters_all : (List.range 6).all (fun st => (List.range 32).all fun k => (bitNames (k * 2 ^ st) 10).map (·.cps.toList) == (letters k).map fun j => (flagName (st + j)).cps.toList) = true := by decide +kernel
theorem map_toList_inj : ∀ {a b : List PySem.Str}, a.map (·.cps.toList) = b.map (·.cps.toList) → a = b
  | [], [], _ => rfl
  | [], _ :: _, h => by simp at h
  | _ :: _, [], h => by simp at h
  | x :: a, y :: b, h => by
    simp only [List.map_cons, List.cons.injEq] at h
    rw [str_eq h.1, map_toList_inj h.2]
theorem names_split {st k : Nat} (hst : st < 6) (hk : 1 ≤ k) (hk' : k < 32) : Txt.split (Txt.join (Str.ofString ", ") (bitNames (k * 2 ^ st) 10)) (Str.ofString ", ") = bitNames (k * 2 ^ st) 10 := by
  have h := List.all_eq_true.mp okNames_all st (by rw [List.mem_range]; exact hst)
  have h := List.all_eq_true.mp h k (by rw [List.mem_range'_1]; omega)
  unfold okNames at h
  obtain ⟨h1, h2⟩ := Bool.and_eq_true_iff.mp h
  refine map_toList_inj ?_
  rw [split_cut _ _ (by decide) (by
    rw [kind_of (x := Txt.join _ _), show Builtin.Str.strKind (Str.ofString ", ") = 1 by decide +kernel]
    · exact Nat.le_refl _
    · intro c hc
      exact of_decide_eq_true (List.all_eq_true.mp h2 c hc))]
  exact eq_of_beq h1
theorem names_letters {st k : Nat} (hst : st < 6) (hk' : k < 32) : bitNames (k * 2 ^ st) 10 = (letters k).map fun j => flagName (st + j) := by
  have h := List.all_eq_true.mp letters_all st (by rw [List.mem_range]; exact hst)
  have h := List.all_eq_true.mp h k (by rw [List.mem_range]; exact hk')
  refine map_toList_inj ?_
  rw [eq_of_beq h, List.map_map]
  rfl
theorem join_len (n : Nat) : (Txt.join (Str.ofString ", ") (bitNames n 10)).length ≤ 1000 := by
  show (Builtin.Str.glued _ _).length ≤ _
  rw [StrLaws.glued_eq_join]
  have h0 := StrLaws.join_length_le (Str.ofString ", ") (bitNames n 10)
  have h1 := sum_le 18 _ (bitNames_le n 10)
  have h2 := bitNames_len n 10
  have h3 : (Str.ofString ", ").length = 2 := by decide
  rw [h3] at h0
  omega
theorem names_ok (n : Nat) : ∀ i, ∀ x ∈ bitNames n i, PyData.strOk x = true
  | 0, _, h => nomatch h
  | i + 1, x, h => by
    unfold bitNames at h
    rcases List.mem_append.mp h with h | h
    · exact names_ok n i x h
    · split at h
      · rw [List.mem_singleton.mp h]
        unfold flagName
        split <;> decide +kernel
      · cases h
end Mine
end

-- LawDef
section
open PySem PySem.W PyProof.Rows in
theorem Mine.resetLawDef : True ∧ True := by
  w_top off
  walk1
  all_goals exact True.intro
end
section
open PySem PySem.W PyProof.Rows PySem.Calls
namespace Mine
def lawDef : Option (List Stmt × Scope) := match Challenge.pw_re0031_01.main.body.getLast? with
  | some (.FunctionDef _ _ b _ _ _ sc _ _ _) => some (b, sc)
  | _ => none
def lawBody : List Stmt := match lawDef with | some p => p.1 | none => []
def lawScope : Scope := match lawDef with | some p => p.2 | none => default
def bodyOf : Stmt → List Stmt
  | .For _ _ b _ _ => b
  | _ => []
def stmtAt (l : List Stmt) (i : Nat) : Stmt := l.getD i (.Pass ⟨0, 0, 0, 0⟩)
def lawAt (i : Nat) : Stmt := stmtAt lawBody i
def inAt (i j : Nat) : Stmt := stmtAt (bodyOf (lawAt i)) j
abbrev lawEnv (L fa : Addr) : Env := envOfC (Str.ofString "law") lawScope L fa (.ref 104)
theorem mapL {m : PySem.Str → Option Value} (l : List (PySem.Str × Value)) (h : ∀ p ∈ l, m p.1 = some p.2) : m = fun z => match l.lookup z with | some v => some v | none => m z := by
  funext z
  cases q : l.lookup z with
  | none => rfl
  | some v =>
    obtain ⟨l1, l2, e, _⟩ := List.lookup_eq_some_iff.mp q
    exact h (z, v) (by rw [e]; simp)
theorem off_app {a b : List (Addr × Obj)} {l : List Addr} (h : OwnOff a l) (h' : OwnOff b l) : OwnOff (a ++ b) l := fun p hp => (List.mem_append.mp hp).elim (h p) (h' p)
theorem listAt {h₀ h : Heap} {L D : Addr} {news : List (Addr × Obj)} {its : Array Value} {n : Nat} (N : News h₀ L h news) (hm : (D, W.listOf its n) ∈ news) : h.IsList D its := ⟨_, (N _ hm).1, rfl, _, rfl⟩
end Mine
end

-- P4a
section
open PySem PySem.W PyProof.Rows in
theorem Mine.resetP4a : True ∧ True := by
  w_top off
  walk1
  all_goals exact True.intro
end
section
open PySem PySem.W PyProof.Rows PySem.Calls
namespace Mine
/-- the rows that look finds -/
structure Rows (own0 : List (Addr × Obj)) (w : World) (h₀ : Heap) (L : Addr) (st : Nat) (lk : Addr) (up lo : Nat → Nat) : Prop where
  at_ : ∃ f, (∀ h, News h₀ L h own0 → (∀ b o, h₀.get? b = some o → h.get? b = some o) → LookAt h w lk f) ∧ ∀ j, j < 5 → ∃ r t1 t2 t3 nn, f (flagName (st + j)) = some (.ref r) ∧ (r, W.listOf #[.str (dots (up j)) t1, .str (dots (lo j)) t2, .str (Str.ofString "") t3] nn) ∈ own0
structure VarsI (m m0 : PySem.Str → Option Value) (lk : Addr) (a b : Nat) : Prop where
  look : m (Str.ofString "look") = some (.ref lk)
  left : ∃ t, m (Str.ofString "left") = some (.str (dots a) t)
  right : ∃ t, m (Str.ofString "right") = some (.str (dots b) t)
  rest : ∀ x ∈ ["start", "choices", "firsts", "seconds", "balance", "words"], m (Str.ofString x) = m0 (Str.ofString x)
def JI (m0 : PySem.Str → Option Value) (news0 : List (Addr × Obj)) (lk : Addr) (up lo : Nat → Nat) (js : List Nat) (i : Nat) (m : PySem.Str → Option Value) (news : List (Addr × Obj)) : Prop :=
  news = news0 ∧ VarsI m m0 lk (sumOf up (js.take i)) (sumOf lo (js.take i))
theorem strs_get : ∀ {vs : List Value} {ns : List PySem.Str} {i : Nat} {x : Value}, StrsAre vs ns → vs[i]? = some x → ∃ y t, x = .str y t ∧ ns[i]? = some y
  | _, _, 0, _, .cons y t r, h => ⟨y, t, (Option.some.inj h).symm, rfl⟩
  | _, _, i + 1, _, .cons y t r, h => strs_get (i := i) r h
  | _, _, _, _, .nil, h => by simp at h
theorem sum_take {f : Nat → Nat} {js : List Nat} {i j : Nat} (h : js[i]? = some j) : sumOf f (js.take (i + 1)) = sumOf f (js.take i) + f j := by
  unfold sumOf
  rw [List.take_add_one, h]
  simp
theorem sum_small {f : Nat → Nat} (hf : ∀ j, f j ≤ 4) : ∀ js : List Nat, sumOf f js ≤ 4 * js.length
  | [] => by simp [sumOf]
  | j :: js => by
    have h1 := sum_small hf js
    have h2 := hf j
    simp only [sumOf, List.map_cons, List.sum_cons, List.length_cons] at h1 ⊢
    omega
theorem add_dots {w : World} {A : Around} {E : Value → Shared → Prop} {s : Shared} {Q : Value → Shared → Prop} {a b : Nat} {t u : Tok} (ha : a ≤ 100) (hb : b ≤ 100) (h : ∀ t' tk, Q (.str (dots (a + b)) t') { s with toks := tk }) : wpAny (model prog w) A (binaryOp .Add (.str (dots a) t) (.str (dots b) u)) Q E s :=
  PyProof.Rows.add_str (by rw [dots_add]; exact h) (by rw [dots_len, dots_len, sizeLine_eq]; omega)
section
local macro_rules | `(tactic| walk_at "binaryOp Add str str") => `(tactic| (refine add_dots (by omega) (by omega) ?_; intro _ tk))
local macro_rules | `(tactic| walk_at "call ref") => `(tactic| refine hold_out ?_)
local macro_rules | `(tactic| walk_at "subscriptTail Name Constant ref int") => `(tactic| refine hold_out ?_)
theorem inner3 {w : World} {A : Around} {s : Shared} {Q : Flow → Shared → Prop} {p : Program} {loose : List PySem.Str} {mean : ExcName → Option Value} {mg mb : PySem.Str → Option Value} {h₀ : Heap} {L fa : Addr} {m : PySem.Str → Option Value} {news own0 : List (Addr × Obj)}
    (X : (Mine.hd.heap_39 w.params).In h₀) (T : Top p loose mean mg mb h₀) (hroom : A.depth + 5 < recursionLimit) (hu : A.units + 100 < cLine) (hh : A.handled = none)
    (F : Fr h₀ L s.heap m) {D lk : Addr} {vs : List Value} {js : List Nat} {st : Nat} {up lo : Nat → Nat} (N : News h₀ L s.heap news) (hsub : ∀ p ∈ own0, p ∈ news) (hD : s.heap.IsList D vs.toArray) (hDL : D ≠ L) (hDn : ∀ p ∈ news, p.1 ≠ D)
    (hw : m (Str.ofString "words") = some (.ref D)) (hvs : StrsAre vs (js.map fun j => flagName (st + j))) (hjs : ∀ j ∈ js, j < 5) (hup : ∀ j, up j ≤ 4) (hlo : ∀ j, lo j ≤ 4) (hlen : js.length ≤ 5)
    (V : VarsI m m lk 0 0) (O : Rows own0 w h₀ L st lk up lo)
    (hQ : ∀ h' tk m', Fr h₀ L h' m' → News h₀ L h' news → (∀ o, s.heap.get? D = some o → h'.get? D = some o) → VarsI m' m lk (sumOf up js) (sumOf lo js) → Q .next { s with heap := h', toks := tk }) :
    wpAny (model prog w) A (exec (inAt 11 4) (lawEnv L fa)) Q NoE s := by
  obtain ⟨hd, d, fr, gu, un⟩ := A
  cases hh
  refine wpAny_For ?_ (hs := fun _ => rfl)
  rw [map1 hw] at F
  k_steps
  refine iterList (vs := vs) rfl hD hDL hDn F N (JI m news lk up lo js) ?_ ?_ ?_
  · rw [← map1 hw]
    exact ⟨rfl, V⟩
  · rintro i x m₁ news₁ h tk own hx ⟨rfl, ⟨v1, ⟨t1, v2⟩, ⟨t2, v3⟩, v4⟩⟩ hoff F₁ N₁
    clear F N
    obtain ⟨y, ty, rfl, hy⟩ := strs_get hvs hx
    rw [List.getElem?_map] at hy
    obtain ⟨j, hj, rfl⟩ := Option.map_eq_some_iff.mp hy
    rw [mapL (m := m₁) [(Str.ofString "look", .ref lk), (Str.ofString "left", .str (dots (sumOf up (js.take i))) t1), (Str.ofString "right", .str (dots (sumOf lo (js.take i))) t2)] (by simp [v1, v2, v3])] at F₁
    obtain ⟨f, hf, hr⟩ := O
    obtain ⟨r, u1, u2, u3, nn, hfr, hrm⟩ := hr j (hjs j (List.mem_of_getElem? hj))
    have hl1 := sum_small hup (js.take i)
    have hl2 := sum_small hlo (js.take i)
    have hl3 : (js.take i).length ≤ 5 := Nat.le_trans (by rw [List.length_take]; exact Nat.min_le_right _ _) hlen
    k_steps
    rename Fr _ _ _ _ => F
    rename News _ _ _ _ => N
    have hlk := hf _ (fun p hp => N p (List.mem_append_left _ (hsub p hp))) F.keep
    refine hold_in (wpAny_call (info_spec (X.keeps F.keep) (T.keeps F.keep) (by show d + 1 < recursionLimit; have : d + 5 < recursionLimit := hroom; omega) rfl hlk hfr ?_))
    intro h₂ tk₂ D₂ k₂ hn₂ hg₂
    have F₂ := F.keeps k₂
    have N₂ : News h₀ L h₂ ((D₂, { cls := .type "tuple", data := .seq #[.ref r, .ref r] }) :: (news₁ ++ own)) := by
      intro p hp
      rcases List.mem_cons.mp hp with rfl | hp
      · refine ⟨hg₂, ?_, ?_⟩
        · intro e
          obtain ⟨o, _, _, ho, _⟩ := F.ns
          have e' : D₂ = L := e
          rw [e', show _ = some o from ho] at hn₂
          cases hn₂
        · cases q : h₀.get? D₂ with
          | none => rfl
          | some o => rw [show _ = some o from F.keep _ _ q] at hn₂; cases hn₂
      · exact N.grown k₂ p hp
    clear F N hlk k₂ hg₂ hn₂
    have hrm' : (r, W.listOf #[.str (dots (up j)) u1, .str (dots (lo j)) u2, .str (Str.ofString "") u3] nn) ∈ (D₂, { cls := .type "tuple", data := .seq #[.ref r, .ref r] }) :: (news₁ ++ own) := List.mem_cons_of_mem _ (List.mem_append_left _ (hsub _ hrm))
    have hju := hup j
    have hjl := hlo j
    k_steps
    rename Fr _ _ _ _ => F
    rename News _ _ _ _ => N
    refine hold_in (item_nat (i := 0) (v := .str (dots (up j)) u1) (listAt N hrm') rfl (by decide) rfl ?_)
    k_steps
    rename Fr _ _ _ _ => F
    rename News _ _ _ _ => N
    refine hold_in (item_nat (i := 1) (v := .str (dots (lo j)) u2) (listAt N hrm') rfl (by decide) rfl ?_)
    k_steps
    rename Fr _ _ _ _ => F
    rename News _ _ _ _ => N
    refine ⟨_, _, _, news₁, rfl, F, fun p hp => N p (List.mem_cons_of_mem _ hp), hoff, rfl, ?_⟩
    rw [sum_take hj, sum_take hj]
    refine ⟨rfl, ⟨_, rfl⟩, ⟨_, rfl⟩, ?_⟩
    intro x hx
    rw [← v4 x hx]
    rcases List.mem_cons.mp hx with rfl | hx
    · rfl
    rcases List.mem_cons.mp hx with rfl | hx
    · rfl
    rcases List.mem_cons.mp hx with rfl | hx
    · rfl
    rcases List.mem_cons.mp hx with rfl | hx
    · rfl
    rcases List.mem_cons.mp hx with rfl | hx
    · rfl
    rcases List.mem_cons.mp hx with rfl | hx
    · rfl
    cases hx
  · rintro h' tk m' news' F' N' ⟨rfl, V'⟩ hk
    rw [show vs.length = js.length by rw [hvs.length, List.length_map], List.take_length] at V'
    k_steps
    exact hQ _ _ _ F' N' hk V'
end
end Mine
end

-- P4b
section
open PySem PySem.W PyProof.Rows in
theorem Mine.resetP4b : True ∧ True := by
  w_top off
  walk1
  all_goals exact True.intro
end
section
open PySem PySem.W PyProof.Rows PySem.Calls
namespace Mine
structure Vars (m : PySem.Str → Option Value) (st : Nat) (ch fi se lk : Addr) (b : Int) : Prop where
  start : ∃ t, m (Str.ofString "start") = some (.int st t)
  choices : m (Str.ofString "choices") = some (.ref ch)
  firsts : m (Str.ofString "firsts") = some (.ref fi)
  seconds : m (Str.ofString "seconds") = some (.ref se)
  look : m (Str.ofString "look") = some (.ref lk)
  balance : ∃ t, m (Str.ofString "balance") = some (.int b t)
def J3 (L : Addr) (own0 : List (Addr × Obj)) (st : Nat) (ch fi se lk : Addr) (up lo : Nat → Nat) (i : Nat) (m : PySem.Str → Option Value) (news : List (Addr × Obj)) : Prop :=
  (∃ o kv, news = (L + 1, o) :: own0 ∧ o.data = .cell kv) ∧ Vars m st ch fi se lk (bal up lo i)
structure Own3 (own0 : List (Addr × Obj)) (w : World) (h₀ : Heap) (L : Addr) (st : Nat) (ch fi se lk : Addr) (up lo : Nat → Nat) : Prop where
  choices : ∃ its nn, (ch, W.listOf its nn) ∈ own0 ∧ ∀ k, k < 32 → ∃ r vs n', its[k]? = some (.ref r) ∧ (r, W.listOf (List.toArray vs) n') ∈ own0 ∧ StrsAre vs (bitNames (k * 2 ^ st) 10)
  firsts : ∃ its nn, (fi, W.listOf its nn) ∈ own0 ∧ ∀ k, k < 32 → ∃ t, its[k]? = some (.int (sumOf up (letters k) : Nat) t)
  seconds : ∃ its nn, (se, W.listOf its nn) ∈ own0 ∧ ∀ k, k < 32 → ∃ t, its[k]? = some (.int (sumOf lo (letters k) : Nat) t)
  look : Rows own0 w h₀ L st lk up lo
/-- behind the inner loop -/
structure VarsT (m : PySem.Str → Option Value) (fi se D : Addr) (a b : Nat) (bl : Int) : Prop where
  firsts : m (Str.ofString "firsts") = some (.ref fi)
  seconds : m (Str.ofString "seconds") = some (.ref se)
  words : m (Str.ofString "words") = some (.ref D)
  left : ∃ t, m (Str.ofString "left") = some (.str (dots a) t)
  right : ∃ t, m (Str.ofString "right") = some (.str (dots b) t)
  balance : ∃ t, m (Str.ofString "balance") = some (.int bl t)
theorem len_dots {w : World} {A : Around} {E : Value → Shared → Prop} {s : Shared} {Q : Value → Shared → Prop} {a : Nat} {t : Tok} (ha : a ≤ 100) (h : ∀ t tk, Q (.int (a : Int) t) { s with toks := tk }) : wpAny (model prog w) A (call (.builtin "len") [.str (dots a) t]) Q E s :=
  len_str (by rw [dots_len]; omega) (by rw [dots_len]; exact h _ _)
theorem add_small {w : World} {A : Around} {E : Value → Shared → Prop} {s : Shared} {Q : Value → Shared → Prop} {x y : PySem.Str} {t u : Tok} (hz : x.length + y.length ≤ 1000) (h : ∀ t' tk, Q (.str (x ++ y) t') { s with toks := tk }) : wpAny (model prog w) A (binaryOp .Add (.str x t) (.str y u)) Q E s :=
  PyProof.Rows.add_str h (by rw [sizeLine_eq]; omega)
theorem fmod3 (a : Nat) : (a : Int).fmod 3 = ((a % 3 : Nat) : Int) := by rw [Int.fmod_eq_emod_of_nonneg _ (by decide)]; rfl
theorem fmod2 (a : Nat) : (a : Int).fmod 2 = ((a % 2 : Nat) : Int) := by rw [Int.fmod_eq_emod_of_nonneg _ (by decide)]; rfl
theorem fit_a {a b : Nat} (h : (a : Int).fmod 3 ≠ 0) (h2 : (decide (a % 3 = 0 ∧ b % 3 = 0) != ((a : Int).fmod 3 == 0)) = true) : False := by
  rw [fmod3] at h h2
  have h' : a % 3 ≠ 0 := by omega
  have e : (((a % 3 : Nat) : Int) == 0) = false := beq_eq_false_iff_ne.mpr h
  rw [e] at h2
  simp [h'] at h2
theorem fit_b {a b : Nat} (h : (a : Int).fmod 3 = 0) (h2 : (decide (a % 3 = 0 ∧ b % 3 = 0) != ((b : Int).fmod 3 == 0)) = true) : False := by
  rw [fmod3] at h h2
  have h' : a % 3 = 0 := by omega
  by_cases hb : b % 3 = 0
  · simp [h', hb] at h2
  · have e : (((b % 3 : Nat) : Int) == 0) = false := beq_eq_false_iff_ne.mpr (by omega)
    rw [e] at h2
    simp [hb] at h2
theorem x_len : (Str.ofString "x").length = 1 := by decide
section
local macro_rules | `(tactic| walk_at "binaryOp Add str str") => `(tactic| (refine add_small (by simp only [PySem.Str.length_append, dots_len, x_len]; omega) ?_; intro _ tk))
local macro_rules | `(tactic| walk_at "call ref") => `(tactic| refine hold_out ?_)
local macro_rules | `(tactic| walk_at "subscriptTail Name Name ref int") => `(tactic| refine hold_out ?_)
local macro_rules | `(tactic| walk_at "call builtin:len") => `(tactic| (first | (refine len_dots (by omega) ?_; intro _ tk) | refine hold_out ?_))
theorem tail3 {w : World} {A : Around} {s : Shared} {Q : Flow → Shared → Prop} {p : Program} {loose : List PySem.Str} {mean : ExcName → Option Value} {mg mb : PySem.Str → Option Value} {h₀ : Heap} {L fa : Addr} {m : PySem.Str → Option Value} {news : List (Addr × Obj)} {o : Obj} {tk : Tok} {k : Nat}
    (X : (Mine.hd.heap_39 w.params).In h₀) (T : Top p loose mean mg mb h₀) (hroom : A.depth + 5 < recursionLimit) (hu : A.units + 100 < cLine) (hh : A.handled = none)
    (F : Fr h₀ L s.heap m) (N : News h₀ L s.heap ((L + 1, o) :: news)) (ho : o.data = .cell (some (.int (k : Int) tk)))
    {fi se D : Addr} {fs ss ws : Array Value} {nf ns nw : Nat} {a b : Nat} {bl : Int} {t1 t2 : Tok} (hf : (fi, W.listOf fs nf) ∈ news) (hs : (se, W.listOf ss ns) ∈ news) (hD : (D, W.listOf ws nw) ∈ news)
    (hfk : fs[k]? = some (.int (a : Int) t1)) (hsk : ss[k]? = some (.int (b : Int) t2)) (hk : k < 32) (hw : ws.size ≤ 10) (ha : 2 ≤ a) (ha' : a ≤ 20) (hb : 2 ≤ b) (hb' : b ≤ 20)
    (V : VarsT m fi se D a b bl)
    (hQ : ∀ h' tk m', Fr h₀ L h' m' → News h₀ L h' ((L + 1, o) :: news) → (∀ x ∈ ["start", "choices", "firsts", "seconds", "look"], m' (Str.ofString x) = m (Str.ofString x)) → (∃ t, m' (Str.ofString "balance") = some (.int (bl + (if a % 3 = 0 ∧ b % 3 = 0 then 1 - 2 * ((ws.size % 2 : Nat) : Int) else 0)) t)) → Q .next { s with heap := h', toks := tk }) :
    wpAny (model prog w) A (execs [inAt 11 5, inAt 11 6, inAt 11 7, inAt 11 8] (lawEnv L fa)) Q NoE s := by
  obtain ⟨hd, d, fr, gu, un⟩ := A
  cases hh
  have hQ' : ∀ h' tk m' z t, Fr h₀ L h' m' → News h₀ L h' ((L + 1, o) :: news) → (∀ x ∈ ["start", "choices", "firsts", "seconds", "look"], m' (Str.ofString x) = m (Str.ofString x)) → m' (Str.ofString "balance") = some (.int z t) → z = bl + (if a % 3 = 0 ∧ b % 3 = 0 then 1 - 2 * ((ws.size % 2 : Nat) : Int) else 0) → Q .next { s with heap := h', toks := tk } :=
    fun h' tk m' z t F N hr hb hz => hQ h' tk m' F N hr ⟨t, hz ▸ hb⟩
  clear hQ
  obtain ⟨v1, v2, v3, ⟨t3, v4⟩, ⟨t4, v5⟩, ⟨t5, v6⟩⟩ := V
  rw [mapL (m := m) [(Str.ofString "firsts", .ref fi), (Str.ofString "seconds", .ref se), (Str.ofString "words", .ref D), (Str.ofString "left", .str (dots a) t3), (Str.ofString "right", .str (dots b) t4), (Str.ofString "balance", .int bl t5)] (by simp [v1, v2, v3, v4, v5, v6])] at F
  conv in (inAt 11 5) => whnf
  conv in (inAt 11 6) => whnf
  conv in (inAt 11 7) => whnf
  conv in (inAt 11 8) => whnf
  k_steps
  refine hold_in (item_nat (i := k) (listAt N (.tail _ hf)) rfl (by omega) hfk ?_)
  k_steps
  · exact absurd rfl (by assumption)
  refine hold_in (item_nat (i := k) (listAt N (.tail _ hs)) rfl (by omega) hsk ?_)
  k_steps
  · exact absurd rfl (by assumption)
  have hroom' : Around.depth { depth := d, frames := fr, guards := gu, units := un } < recursionLimit := Nat.lt_of_le_of_lt (Nat.le_add_right _ 5) hroom
  refine hold_in (wpAny_call ?_)
  refine ell1 (a := a) (b := b) (p := p) (loose := loose) (mean := mean) (mg := mg) (mb := mb) ?_ ?_ hroom' rfl ha ha' hb hb' ?_
  · exact X.keeps F.keep
  · exact T.keeps F.keep
  intro h₂ tk₂ k₂
  have F₂ := F.keeps k₂
  have N₂ := N.grown k₂
  clear F N k₂
  k_steps
  rename Fr _ _ _ _ => F
  rename News _ _ _ _ => N
  refine hold_in (item_nat (i := k) (listAt N (.tail _ hf)) rfl (by omega) hfk ?_)
  k_steps
  · refine hold_in (item_nat (i := k) (listAt N (.tail _ hs)) rfl (by omega) hsk ?_)
    k_steps
    · exact (fit_b (by assumption) (by assumption)).elim
    · rename _ ∧ _ => hfit
      refine hold_in (len_list (listAt N (.tail _ hD)) (by omega) ?_)
      k_steps
      rename Fr _ _ _ _ => F
      rename News _ _ _ _ => N
      refine hQ' _ _ _ _ _ F N ?_ rfl ?_
      · intro x hx
        simp only [List.mem_cons, List.not_mem_nil, or_false] at hx
        rcases hx with rfl | rfl | rfl | rfl | rfl
        all_goals first | rfl | exact v1.symm | exact v2.symm
      · rw [if_pos hfit, fmod2]
        omega
    · rename ¬ _ => hne
      refine hQ' _ _ _ _ _ F N ?_ rfl ?_
      · intro x hx
        simp only [List.mem_cons, List.not_mem_nil, or_false] at hx
        rcases hx with rfl | rfl | rfl | rfl | rfl
        all_goals first | rfl | exact v1.symm | exact v2.symm
      · rw [if_neg hne, Int.add_zero]
  · exact (fit_a (by assumption) (by assumption)).elim
  · rename _ ≠ _ => hne
    rw [fmod3] at hne
    refine hQ' _ _ _ _ _ F N ?_ rfl ?_
    · intro x hx
      simp only [List.mem_cons, List.not_mem_nil, or_false] at hx
      rcases hx with rfl | rfl | rfl | rfl | rfl
      all_goals first | rfl | exact v1.symm | exact v2.symm
    · rw [if_neg (show ¬ (a % 3 = 0 ∧ b % 3 = 0) by omega), Int.add_zero]
end
end Mine
end

-- P4
section
open PySem PySem.W PyProof.Rows in
theorem Mine.resetP4 : True ∧ True := by
  w_top off
  walk1
  all_goals exact True.intro
end
section
open PySem PySem.W PyProof.Rows PySem.Calls
namespace Mine
theorem strsAre_map : ∀ l : List (PySem.Str × Tok), StrsAre (strValues l) (l.map (·.1))
  | [] => .nil
  | (x, t) :: l => .cons x t (strsAre_map l)
theorem letters_lt {k j : Nat} (h : j ∈ letters k) : j < 5 := by
  unfold letters at h
  exact List.mem_range.mp (List.mem_filter.mp h).1
theorem letters_len (k : Nat) : (letters k).length ≤ 5 := by
  unfold letters
  exact Nat.le_trans (List.length_filter_le _ _) (by simp)
theorem letters_some : (List.range' 1 31).all (fun k => !(letters k).isEmpty) = true := by decide +kernel
theorem letters_ne {k : Nat} (h : 1 ≤ k) (h' : k < 32) : letters k ≠ [] := by
  have := List.all_eq_true.mp letters_some k (by rw [List.mem_range'_1]; omega)
  intro e
  rw [e] at this
  cases this
theorem sum_two {f : Nat → Nat} (hf : ∀ j, 2 ≤ f j) {js : List Nat} (h : js ≠ []) : 2 ≤ sumOf f js := by
  cases js with
  | nil => exact absurd rfl h
  | cons j js =>
    have := hf j
    simp only [sumOf, List.map_cons, List.sum_cons]
    omega
theorem sum_20 {f : Nat → Nat} (hf : ∀ j, f j ≤ 4) (k : Nat) : sumOf f (letters k) ≤ 20 := by
  have h1 := sum_small hf (letters k)
  have h2 := letters_len k
  omega
theorem bal_succ (up lo : Nat → Nat) (i : Nat) : bal up lo (i + 1) = bal up lo i + (if sumOf up (letters (i + 1)) % 3 = 0 ∧ sumOf lo (letters (i + 1)) % 3 = 0 then 1 - 2 * (((letters (i + 1)).length % 2 : Nat) : Int) else 0) := by
  show bal up lo i + (if fitsAt up lo (i + 1) = true then sgn (i + 1) else 0) = _
  unfold fitsAt sgn
  simp only [decide_eq_true_eq]
theorem dots_nil : Str.ofString "" = dots 0 := by decide
theorem strs_len {vs : List Value} {ns : List PySem.Str} (h : StrsAre vs ns) : vs.toArray.size = ns.length := by
  rw [List.size_toArray]; exact h.length
section
local macro_rules | `(tactic| walk_at "call ref") => `(tactic| refine hold_out ?_)
local macro_rules | `(tactic| walk_at "call builtin:str.split") => `(tactic| refine hold_out ?_)
local macro_rules | `(tactic| walk_at "subscriptTail Name Name ref int") => `(tactic| refine hold_out ?_)
local macro_rules | `(tactic| walk_at "compareOp NotEq ref ref") => `(tactic| refine hold_out ?_)
local macro_rules | `(tactic| walk_at "exec For Name Name cons nil") => `(tactic| refine hold_out ?_)
theorem loop3 {w : World} {A : Around} {s : Shared} {Q : Flow → Shared → Prop} {p : Program} {loose : List PySem.Str} {mean : ExcName → Option Value} {mg mb : PySem.Str → Option Value} {h₀ : Heap} {L fa : Addr} {m : PySem.Str → Option Value} {own0 : List (Addr × Obj)} {ko : Obj} {kv : Option Value}
    (X : (Mine.hd.heap_39 w.params).In h₀) (T : Top p loose mean mg mb h₀) (hroom : A.depth + 5 < recursionLimit) (hu : A.units + 100 < cLine) (hh : A.handled = none)
    (F : Fr h₀ L s.heap m) (N : News h₀ L s.heap ((L + 1, ko) :: own0)) (hko : ko.data = .cell kv) (hoff : OwnOff own0 [L + 1])
    {ch fi se lk : Addr} {st : Nat} {up lo : Nat → Nat} (hst : st < 6) (hup : ∀ j, 2 ≤ up j ∧ up j ≤ 4) (hlo : ∀ j, 2 ≤ lo j ∧ lo j ≤ 4) (V : Vars m st ch fi se lk 1) (O : Own3 own0 w h₀ L st ch fi se lk up lo)
    (hQ : ∀ h' tk m' t, Fr h₀ L h' m' → News h₀ L h' own0 → m' (Str.ofString "balance") = some (.int (bal up lo 31) t) → Q .next { s with heap := h', toks := tk }) :
    wpAny (model prog w) A (exec (lawAt 11) (lawEnv L fa)) Q NoE s := by
  obtain ⟨hd, d, fr, gu, un⟩ := A
  cases hh
  refine wpAny_For ?_ (hs := fun _ => rfl)
  k_steps
  rename_i hr F₁ N₁ _
  refine iterRange (n := 31) rfl hr rfl rfl F₁ N₁ (J3 L own0 st ch fi se lk up lo) ⟨⟨ko, kv, rfl, hko⟩, V⟩ ?_ ?_
  · clear hr F₁ N₁ hko V hQ
    rintro i ti m₁ news₁ h tk own hi ⟨⟨o, kv, rfl, hkv⟩, V⟩ hoff' F N
    obtain ⟨⟨ts, v1⟩, v2, v3, v4, v5, ⟨tb, v6⟩⟩ := V
    rw [mapL (m := m₁) [(Str.ofString "start", .int st ts), (Str.ofString "choices", .ref ch), (Str.ofString "firsts", .ref fi), (Str.ofString "seconds", .ref se), (Str.ofString "look", .ref lk), (Str.ofString "balance", .int (bal up lo i) tb)] (by simp [v1, v2, v3, v4, v5, v6])] at F
    rw [List.cons_append] at N
    have ho : OwnOff (own0 ++ own) [L + 1] := off_app hoff fun p hp b hb => hoff' p hp b (by rw [List.mem_singleton.mp hb]; exact .head _)
    k_steps
    rename Fr _ _ _ _ => F
    rename News _ _ _ _ => N
    rename Obj => o'
    have e1 : ((1 : Int) + (i : Int)) * 2 ^ ((st : Int)).toNat = (((i + 1) * 2 ^ st : Nat) : Int) := by
      rw [Int.toNat_natCast]; push_cast; rw [Int.add_comm]
    rw [e1]
    have hn1 : 0 < (i + 1) * 2 ^ st := Nat.mul_pos (by omega) (Nat.two_pow_pos _)
    have hn2 : (i + 1) * 2 ^ st < 1024 := Nat.lt_of_lt_of_le (Nat.mul_lt_mul_of_pos_right (show i + 1 < 32 by omega) (Nat.two_pow_pos st)) (Nat.le_trans (Nat.mul_le_mul_left 32 (Nat.pow_le_pow_right (by decide) (show st ≤ 5 by omega))) (by decide))
    refine hold_in (wpAny_call (pretty1 (X.keeps F.keep) (T.keeps F.keep) (by show d < recursionLimit; have : d + 5 < recursionLimit := hroom; omega) rfl hn1 hn2 ?_))
    intro h₂ tk₂ t₂ k₂
    have F₂ := F.keeps k₂
    have N₂ := N.grown k₂
    clear F N k₂
    k_steps
    rename Fr _ _ _ _ => F
    rename News _ _ _ _ => N
    have hDn : ∀ p ∈ (L + 1, o') :: (own0 ++ own), p.1 ≠ h₂.objs.size := fun p hp => Nat.ne_of_lt (Heap.lt_size (N p hp).1)
    have hDL : h₂.objs.size ≠ L := Ne.symm (Nat.ne_of_lt F.ns.lt)
    refine hold_in (splitN1 (hsz := by have := join_len ((i + 1) * 2 ^ st); rw [sizeLine_eq]; omega) F N (by decide) ?_)
    · intro l h₃ k₃ hl F₃ N₃
      clear F N
      have hw : StrsAre (strValues l) (bitNames ((i + 1) * 2 ^ st) 10) := by
        have := strsAre_map l
        rwa [hl, names_split hst (by omega) (by omega)] at this
      k_steps
      rename Fr _ _ _ _ => F
      rename News _ _ _ _ => N
      generalize h₂.objs.size = D at *
      have ek : (1 : Int) + (i : Int) = ((i + 1 : Nat) : Int) := by omega
      obtain ⟨cits, cn, hcm, hc⟩ := O.choices
      obtain ⟨r, us, n', hcr, hrm, hus⟩ := hc (i + 1) (by omega)
      refine hold_in (item_nat (i := i + 1) (listAt N (.tail _ (.tail _ (List.mem_append_left _ hcm)))) ek (by omega) hcr ?_)
      k_steps
      refine hold_in (ne_same_strs (listAt N (.head _)) hw (listAt N (.tail _ (.tail _ (List.mem_append_left _ hrm)))) hus (names_ok _ 10) (by show un + 64 < cLine; have : un + 100 < cLine := hu; omega) ?_)
      k_steps
      rename Fr _ _ _ _ => F
      rename News _ _ _ _ => N
      have hjs : StrsAre (strValues l) ((letters (i + 1)).map fun j => flagName (st + j)) := by
        rw [← names_letters hst (by omega)]; exact hw
      refine hold_in (inner3 X T hroom hu rfl F (D := D) (lk := lk) (vs := strValues l) (js := letters (i + 1)) (st := st) (up := up) (lo := lo) (own0 := own0) (news := (L + 1, _) :: (own0 ++ own)) (fun p hp => N p (.tail _ hp)) (fun p hp => .tail _ (List.mem_append_left _ hp)) (listAt N (.head _)) hDL hDn rfl hjs (fun j => letters_lt) (fun j => (hup j).2) (fun j => (hlo j).2) (letters_len _) ⟨rfl, ⟨_, by rw [← dots_nil]; rfl⟩, ⟨_, by rw [← dots_nil]; rfl⟩, fun _ _ => rfl⟩ O.look ?_)
      intro h₄ tk₄ m₄ F₄ N₄ hD₄ V₄
      rename _ = Data.cell _ => hd'
      rw [ek] at hd'
      obtain ⟨w1, ⟨t3, w2⟩, ⟨t4, w3⟩, w4⟩ := V₄
      obtain ⟨fits, fn, hfm, hf⟩ := O.firsts
      obtain ⟨sits, sn, hsm, hs⟩ := O.seconds
      obtain ⟨t5, hf5⟩ := hf (i + 1) (by omega)
      obtain ⟨t6, hs6⟩ := hs (i + 1) (by omega)
      have hne := letters_ne (show 1 ≤ i + 1 by omega) (show i + 1 < 32 by omega)
      have hsz : (strValues l).toArray.size = (letters (i + 1)).length := by rw [strs_len hjs, List.length_map]
      have hND : News h₀ L h₄ ((L + 1, o') :: (D, W.listOf (strValues l).toArray 0) :: (own0 ++ own)) := by
        intro p hp
        rcases List.mem_cons.mp hp with rfl | hp
        · exact N₄ _ (.head _)
        · rcases List.mem_cons.mp hp with rfl | hp
          · exact ⟨hD₄ _ (N _ (.head _)).1, (N _ (.head _)).2⟩
          · exact N₄ _ (.tail _ hp)
      have r1 := w4 "start" (by simp)
      have r2 := w4 "choices" (by simp)
      have r3 := w4 "firsts" (by simp)
      have r4 := w4 "seconds" (by simp)
      have r5 := w4 "balance" (by simp)
      have r6 := w4 "words" (by simp)
      refine tail3 X T hroom hu rfl F₄ hND hd' (fi := fi) (se := se) (D := D) (.tail _ (List.mem_append_left _ hfm)) (.tail _ (List.mem_append_left _ hsm)) (.head _) hf5 hs6 (by omega) (by rw [hsz]; exact Nat.le_trans (letters_len _) (by decide)) (sum_two (fun j => (hup j).1) hne) (sum_20 (fun j => (hup j).2) _) (sum_two (fun j => (hlo j).1) hne) (sum_20 (fun j => (hlo j).2) _) (bl := bal up lo i) ⟨r3, r4, r6, ⟨_, w2⟩, ⟨_, w3⟩, ⟨_, r5⟩⟩ ?_
      intro h₅ tk₅ m₅ F₅ N₅ hr₅ hb₅
      refine ⟨h₅, tk₅, m₅, (L + 1, o') :: own0, rfl, F₅, ?_, hoff', ⟨⟨_, _, rfl, hd'⟩, ?_⟩⟩
      · intro p hp
        rw [List.cons_append] at hp
        rcases List.mem_cons.mp hp with rfl | hp
        · exact N₅ _ (.head _)
        · exact N₅ _ (.tail _ (.tail _ hp))
      · refine ⟨⟨_, (hr₅ "start" (by simp)).trans r1⟩, (hr₅ "choices" (by simp)).trans r2, (hr₅ "firsts" (by simp)).trans r3, (hr₅ "seconds" (by simp)).trans r4, (hr₅ "look" (by simp)).trans w1, ?_⟩
        obtain ⟨tb₅, hb₅⟩ := hb₅
        refine ⟨tb₅, hb₅.trans ?_⟩
        rw [hsz, bal_succ]
  · rintro h' tk m' news' F' N' ⟨⟨o, kv, rfl, _⟩, V'⟩
    k_steps
    obtain ⟨t, hb⟩ := V'.balance
    exact hQ _ _ _ _ F' (fun p hp => N' p (.tail _ hp)) hb
end
end Mine
end

-- L1
section
open PySem PySem.W PyProof.Rows in
theorem Mine.resetL1 : True ∧ True := by
  w_top off
  walk1
  all_goals exact True.intro
end
section
open PySem PySem.W PyProof.Rows PySem.Calls
namespace Mine
/-- five ints of 0 to 26 -/
def Fives (its : Array Value) : Prop := ∃ a b c d e : Nat, ∃ t1 t2 t3 t4 t5, its = #[.int (a : Int) t1, .int (b : Int) t2, .int (c : Int) t3, .int (d : Int) t4, .int (e : Int) t5] ∧ a < 27 ∧ b < 27 ∧ c < 27 ∧ d < 27 ∧ e < 27
def J1 (L sc nu : Addr) (own0 : List (Addr × Obj)) (_ : Nat) (m : PySem.Str → Option Value) (news : List (Addr × Obj)) : Prop :=
  (∃ o kv its nn, news = (L + 1, o) :: (nu, W.listOf its nn) :: own0 ∧ o.data = .cell kv ∧ Fives its) ∧ m (Str.ofString "script") = some (.ref sc) ∧ m (Str.ofString "numbers") = some (.ref nu)
theorem size15 (k : Nat) : Builtin.Range.rangeSize 0 (k : Int) 1 = (k : Int) := by
  unfold Builtin.Range.rangeSize
  simp
  omega
theorem small15 {k : Nat} (h : k ≤ 15) : Builtin.Range.small 0 (k : Int) 1 = true := by
  rcases (show k = 0 ∨ k = 1 ∨ k = 2 ∨ k = 3 ∨ k = 4 ∨ k = 5 ∨ k = 6 ∨ k = 7 ∨ k = 8 ∨ k = 9 ∨ k = 10 ∨ k = 11 ∨ k = 12 ∨ k = 13 ∨ k = 14 ∨ k = 15 by omega) with rfl | rfl | rfl | rfl | rfl | rfl | rfl | rfl | rfl | rfl | rfl | rfl | rfl | rfl | rfl | rfl
  all_goals rfl
theorem set_nat {w : World} {A : Around} {E : Value → Shared → Prop} {s : Shared} {h₀ : Heap} {L D : Addr} {m : PySem.Str → Option Value} {pre post : List (Addr × Obj)} {its : Array Value} {n : Nat} {k : Int} {i : Nat} {u : Tok} {v : Value} {Q : Unit → Shared → Prop}
    (F : Fr h₀ L s.heap m) (N : News h₀ L s.heap (pre ++ (D, W.listOf its n) :: post)) (a : ∀ p ∈ pre, p.1 ≠ D) (b : ∀ p ∈ post, p.1 ≠ D) (hk : k = (i : Int)) (hi : i < its.size) (hi2 : i < 1000)
    (h : ∀ h', Fr h₀ L h' m → News h₀ L h' (pre ++ (D, W.listOf (its.setIfInBounds i v) n) :: post) → Q () { s with heap := h' }) :
    wpAny (model prog w) A (setItem (.ref D) (.int k u) v) Q E s := by
  subst hk
  have z := N (D, W.listOf its n) (List.mem_append.mpr (.inr (.head _)))
  refine ki_setAt z.1 (by omega) (by omega) (by omega) (h _ (F.change (Heap.SameBut.update ..) z.2.1 z.2.2) (ki_turn _ N a b ?_ ?_))
  · rw [Int.toNat_natCast]
  · simp
theorem five_at {its : Array Value} (h : Fives its) {i : Nat} (hi : i < 5) : ∃ x : Nat, ∃ t, its[i]? = some (.int (x : Int) t) ∧ x < 27 := by
  obtain ⟨a, b, c, d, e, t1, t2, t3, t4, t5, rfl, h1, h2, h3, h4, h5⟩ := h
  rcases (show i = 0 ∨ i = 1 ∨ i = 2 ∨ i = 3 ∨ i = 4 by omega) with rfl | rfl | rfl | rfl | rfl
  · exact ⟨a, t1, rfl, h1⟩
  · exact ⟨b, t2, rfl, h2⟩
  · exact ⟨c, t3, rfl, h3⟩
  · exact ⟨d, t4, rfl, h4⟩
  · exact ⟨e, t5, rfl, h5⟩
theorem five_set {its : Array Value} (h : Fives its) {i : Nat} (hi : i < 5) {x : Nat} {t : Tok} (hx : x < 27) : Fives (its.setIfInBounds i (.int (x : Int) t)) := by
  obtain ⟨a, b, c, d, e, t1, t2, t3, t4, t5, rfl, h1, h2, h3, h4, h5⟩ := h
  rcases (show i = 0 ∨ i = 1 ∨ i = 2 ∨ i = 3 ∨ i = 4 by omega) with rfl | rfl | rfl | rfl | rfl
  · exact ⟨x, b, c, d, e, t, t2, t3, t4, t5, rfl, hx, h2, h3, h4, h5⟩
  · exact ⟨a, x, c, d, e, t1, t, t3, t4, t5, rfl, h1, hx, h3, h4, h5⟩
  · exact ⟨a, b, x, d, e, t1, t2, t, t4, t5, rfl, h1, h2, hx, h4, h5⟩
  · exact ⟨a, b, c, x, e, t1, t2, t3, t, t5, rfl, h1, h2, h3, hx, h5⟩
  · exact ⟨a, b, c, d, x, t1, t2, t3, t4, t, rfl, h1, h2, h3, h4, hx⟩
section
local macro_rules | `(tactic| walk_at "subscriptTail Name BinOp ref int") => `(tactic| refine hold_out ?_)
local macro_rules | `(tactic| walk_at "setItem ref int") => `(tactic| refine hold_out ?_)
theorem loop1 {w : World} {A : Around} {s : Shared} {Q : Flow → Shared → Prop} {p : Program} {loose : List PySem.Str} {mean : ExcName → Option Value} {mg mb : PySem.Str → Option Value} {h₀ : Heap} {L fa : Addr} {m : PySem.Str → Option Value} {own0 : List (Addr × Obj)} {ko : Obj} {kv : Option Value}
    (X : (Mine.hd.heap_39 w.params).In h₀) (T : Top p loose mean mg mb h₀) (hroom : A.depth + 5 < recursionLimit) (hu : A.units + 100 < cLine) (hh : A.handled = none) {sc nu : Addr} {vs : List Value} {ns : List Int} {its : Array Value} {nn : Nat}
    (hsc : h₀.IsList sc vs.toArray) (hns : IntsAre vs ns) (h63 : ns.length ≤ 63)
    (F : Fr h₀ L s.heap m) (N : News h₀ L s.heap ((L + 1, ko) :: (nu, W.listOf its nn) :: own0)) (hko : ko.data = .cell kv) (hoff : OwnOff own0 [L + 1, nu]) (hnu : nu ≠ L + 1) (h5 : Fives its)
    (hm1 : m (Str.ofString "script") = some (.ref sc)) (hm2 : m (Str.ofString "numbers") = some (.ref nu))
    (hQ : ∀ h' tk m' o kv its nn, Fr h₀ L h' m' → News h₀ L h' ((L + 1, o) :: (nu, W.listOf its nn) :: own0) → o.data = .cell kv → Fives its → m' (Str.ofString "numbers") = some (.ref nu) → Q .next { s with heap := h', toks := tk }) :
    wpAny (model prog w) A (exec (lawAt 1) (lawEnv L fa)) Q NoE s := by
  obtain ⟨hd, d, fr, gu, un⟩ := A
  cases hh
  refine wpAny_For ?_ (hs := fun _ => rfl)
  have hm1' := hm1
  have hm2' := hm2
  rw [map2 hm1 hm2] at F
  k_steps
  rename IsRange _ _ _ _ _ _ _ _ => hr
  rename Fr _ _ _ _ => F₁
  rename News _ _ _ _ => N₁
  rename _ ∧ _ ∧ AllLt _ _ => hlt
  refine iterRange (n := (List.take 15 ns).length) rfl hr (small15 (by rw [List.length_take]; exact Nat.min_le_left _ _)) (size15 _) F₁ (fun p hp => N₁ p (.tail _ hp)) (J1 L sc nu own0) ⟨⟨ko, kv, its, nn, rfl, hko, h5⟩, rfl, rfl⟩ ?_ ?_
  · clear hr F₁ N₁ hko h5 hm1 hm2 hlt
    rintro i ti m₁ news₁ h tk own hi ⟨⟨o, kv, its, nn, rfl, hkv, h5⟩, hm1, hm2⟩ hoff' F N
    rw [map2 hm1 hm2] at F
    rw [List.cons_append, List.cons_append] at N
    have ho : OwnOff (own0 ++ own) [L + 1, nu] := off_app hoff fun p hp b hb => hoff' p hp b (by rcases List.mem_cons.mp hb with rfl | hb; exact .head _; rw [List.mem_singleton.mp hb]; exact .tail _ (.head _))
    k_steps
    rename Fr _ _ _ _ => F
    rename News _ _ _ _ => N
    have hmod : ((0 : Int) + (i : Int)).fmod 5 = ((i % 5 : Nat) : Int) := by
      rw [Int.zero_add, Int.fmod_eq_emod_of_nonneg _ (by decide)]; rfl
    rw [hmod]
    obtain ⟨x, tx, hx, hx27⟩ := five_at h5 (i := i % 5) (Nat.mod_lt _ (by decide))
    refine hold_in (item_nat (i := i % 5) (v := .int (x : Int) tx) (listAt N (.tail _ (.head _))) rfl (by omega) hx ?_)
    k_steps
    rename Fr _ _ _ _ => F
    rename News _ _ _ _ => N
    generalize ns.getD ((0 : Int) + (i : Int)).toNat 0 = y at *
    have h5' := h5
    have hfm : ∃ z : Nat, ((x : Int) + y).fmod 27 = (z : Int) ∧ z < 27 := by
      rw [Int.fmod_eq_emod_of_nonneg _ (by decide)]
      have h1 := Int.emod_nonneg ((x : Int) + y) (show (27 : Int) ≠ 0 by decide)
      have h2 := Int.emod_lt_of_pos ((x : Int) + y) (show (0 : Int) < 27 by decide)
      exact ⟨(((x : Int) + y) % 27).toNat, (Int.toNat_of_nonneg h1).symm, by omega⟩
    obtain ⟨z, hz, hz27⟩ := hfm
    refine hold_in (set_nat (i := i % 5) (pre := [(L + 1, _)]) F N ?_ ?_ hmod ?_ (by omega) ?_)
    · intro p hp; rw [List.mem_singleton.mp hp]; exact hnu.symm
    · exact ho.ne (.tail _ (.head _))
    · obtain ⟨_, _, _, _, _, _, _, _, _, _, rfl, _⟩ := h5
      exact Nat.mod_lt _ (by decide)
    intro h₂ F₂ N₂
    rw [hz] at N₂
    clear F N
    k_steps
    exact ⟨_, _, _, (L + 1, _) :: (nu, _) :: own0, rfl, F₂, N₂, hoff', ⟨_, _, _, _, rfl, by assumption, five_set h5' (Nat.mod_lt _ (by decide)) hz27⟩, rfl, rfl⟩
  · rintro h' tk m' news' F' N' ⟨⟨o, kv, its, nn, rfl, hkv, h5⟩, hm1, hm2⟩
    k_steps
    exact hQ _ _ _ _ _ _ _ F' N' hkv h5 hm2
end
end Mine
end

-- L2a
section
open PySem PySem.W PyProof.Rows in
theorem Mine.resetL2a : True ∧ True := by
  w_top off
  walk1
  all_goals exact True.intro
end
section
open PySem PySem.W PyProof.Rows PySem.Calls
namespace Mine
theorem rest_ind {prog : Program} {w : World} {A : Around} {h₀ : Heap} {L : Addr} {m : PySem.Str → Option Value} {env : Env} {elt : Expr} {x : PySem.Str} {scope : Scope} {cl : List (PySem.Str × Addr)} {s : Shared} {S : List (Addr × Obj) → Prop} {P : Nat → Value → Prop} {Fin : List Value → List (Addr × Obj) → Prop} {n : Nat} {news : List (Addr × Obj)}
    (J : Nat → List Value → List (Addr × Obj) → Prop) (h0 : J 0 [] news) (fin : ∀ ys news, J n ys news → Fin ys news)
    (step : ∀ i ys news v I oI C oC D m₂ h tk (E' : Value → Shared → Prop), i < n → J i ys news → P i v → LCg.NsObj oC m₂ → m₂ x = some v → Fr h₀ L h m → News h₀ L h ((I, oI) :: (C, oC) :: (D, LCg.lst ys) :: news) → LCg.Off3 I C D news → ((@Ne Nat I C) ∧ (@Ne Nat I D) ∧ (@Ne Nat C D)) →
      wpAny (model prog w) A (eval elt (compEnvC scope cl C env)) (LCg.CompEnd h₀ L m { s with heap := h, toks := tk } I oI C oC D (LCg.lst ys) S (fun y news' => J (i + 1) (ys ++ [y]) news')) E' { s with heap := h, toks := tk }) :
    LCg.CompRest prog w A h₀ L m env elt x scope cl s S P Fin n 0 [] news := by
  have key : ∀ (k i : Nat) ys news, i + k = n → J i ys news → LCg.CompRest prog w A h₀ L m env elt x scope cl s S P Fin k i ys news := by
    intro k
    induction k with
    | zero => intro i ys news e hJ; exact LCg.CompRest.zero (fin _ _ (by rw [← e]; exact hJ))
    | succ k ih =>
      intro i ys news e hJ
      refine LCg.CompRest.succ fun v I oI C oC D m₂ h tk E' hP hC hx F N off ne => ?_
      refine wpAny_mono (step i ys news v I oI C oC D m₂ h tk E' (by omega) hJ hP hC hx F N off ne) (fun y s' hy => ?_) fun _ _ e => e
      obtain ⟨h', tk', nw, e1, e2, e3, e4, e5, e6⟩ := hy
      exact ⟨h', tk', nw, e1, e2, e3, e4, e5, ih _ _ _ (by omega) e6⟩
  exact key n 0 [] news (by omega) h0
theorem map_twice {m : PySem.Str → Option Value} {a : PySem.Str} {v v' : Value} : (fun y => if y = a then some v else if y = a then some v' else m y) = fun y => if y = a then some v else m y := by
  funext y; by_cases q : y = a <;> simp [q]
theorem get_snoc {P : Value → Prop} {ys : List Value} {y : Value} {i : Nat} (hl : ys.length = i) (h : P y) : ∀ v, (ys ++ [y])[i]? = some v → P v := by
  subst hl; intro v e; simp at e; exact e ▸ h
theorem snoc_all {P : Nat → Value → Prop} {ys : List Value} {y : Value} {i : Nat} (hl : ys.length = i) (hy : ∀ k, k < i → ∃ v, ys[k]? = some v ∧ P k v) (h : P i y) : ∀ k, k < i + 1 → ∃ v, (ys ++ [y])[k]? = some v ∧ P k v := by
  intro k hk
  subst hl
  rcases Nat.lt_or_ge k ys.length with q | q
  · obtain ⟨v, e, p⟩ := hy k q
    exact ⟨v, by rw [List.getElem?_append_left q]; exact e, p⟩
  · have : k = ys.length := by omega
    subst this
    exact ⟨y, by simp, h⟩
theorem arr_left {xs : Array Value} {ys : List Value} {k : Nat} (h : k < xs.size) : (xs.toList ++ ys.toArray.toList).toArray[k]? = xs[k]? := by
  rw [List.getElem?_toArray, List.getElem?_append_left (by rw [Array.length_toList]; exact h), Array.getElem?_toList]
theorem arr_right {xs : Array Value} {ys : List Value} {k : Nat} : (xs.toList ++ ys.toArray.toList).toArray[xs.size + k]? = ys[k]? := by
  rw [List.getElem?_toArray, List.getElem?_append_right (by rw [Array.length_toList]; omega), Array.length_toList, Nat.add_sub_cancel_left]
theorem arr_size {xs : Array Value} {ys : List Value} : (xs.toList ++ ys.toArray.toList).toArray.size = xs.size + ys.length := by
  rw [List.size_toArray, List.length_append, Array.length_toList]
section
local macro_rules | `(tactic| walk_at "CompSrc") => `(tactic| refine hold_out ?_)
local macro_rules | `(tactic| walk_at "CompEnd") => `(tactic| refine hold_out ?_)
local macro_rules | `(tactic| walk_at "binaryOp Add ref ref") => `(tactic| refine hold_out ?_)
theorem firsts7 {w : World} {A : Around} {s : Shared} {Q : Flow → Shared → Prop} {p : Program} {loose : List PySem.Str} {mean : ExcName → Option Value} {mg mb : PySem.Str → Option Value} {h₀ : Heap} {L fa : Addr} {m : PySem.Str → Option Value} {news : List (Addr × Obj)}
    (X : (Mine.hd.heap_39 w.params).In h₀) (T : Top p loose mean mg mb h₀) (hroom : A.depth + 5 < recursionLimit) (hh : A.handled = none)
    (F : Fr h₀ L s.heap m) (N : News h₀ L s.heap news) {fi : Addr} {its : Array Value} {n : Nat} {ou : Obj} {u : Nat} {tu : Tok} (hm : m (Str.ofString "firsts") = some (.ref fi)) (hfi : (fi, W.listOf its n) ∈ news) (hou : (L + 1 + 1 + 1, ou) ∈ news) (hod : ou.data = .cell (some (.int (u : Int) tu)))
    (g : Nat → Nat) (hits : ∀ k, k < its.size → ∃ t, its[k]? = some (.int (g k : Nat) t)) (hsz : its.size ≤ 16)
    (hQ : ∀ h' tk D its', Fr h₀ L h' (fun z => if z = Str.ofString "firsts" then some (.ref D) else m z) → News h₀ L h' ((D, W.listOf its' 0) :: news) → (∀ p ∈ news, p.1 < D) → its'.size = 2 * its.size → (∀ k, k < its.size → ∃ t, its'[k]? = some (.int (g k : Nat) t)) → (∀ k, k < its.size → ∃ t, its'[its.size + k]? = some (.int (g k + u : Nat) t)) → Q .next { s with heap := h', toks := tk }) :
    wpAny (model prog w) A (exec (inAt 8 7) (lawEnv L fa)) Q NoE s := by
  obtain ⟨hd, d, fr, gu, un⟩ := A
  cases hh
  rw [map1 hm] at F
  have N' : News h₀ L s.heap ((L + 1 + 1 + 1, ou) :: (fi, W.listOf its n) :: news) := fun p hp => by
    rcases List.mem_cons.mp hp with rfl | hp
    · exact N _ hou
    · rcases List.mem_cons.mp hp with rfl | hp
      · exact N _ hfi
      · exact N _ hp
  clear N
  conv in (inAt 8 7) => whnf
  k_steps
  refine hold_in (LCg.CompSrc.ledger rfl F N' (.tail _ (.head _)) (by rw [sizeLine_eq]; omega) fun g' => ?_)
  refine rest_ind (fun i ys nw => nw = (L + 1 + 1 + 1, ou) :: (fi, W.listOf its n) :: news ∧ ys.length = i ∧ ∀ k, k < i → ∃ v, ys[k]? = some v ∧ ∃ t, v = .int (g k + u : Nat) t) ⟨rfl, rfl, fun _ h => absurd h (Nat.not_lt_zero _)⟩ ?_ ?_
  · rintro ys nw ⟨rfl, hl, hy⟩
    k_steps
    rename Fr _ _ _ _ => F₁
    rename News _ _ _ _ => N₁
    have hlt : ∀ p ∈ news, p.1 < _ := fun p hp => Heap.lt_size (N₁ p (.tail _ (.tail _ (.tail _ hp)))).1
    refine hold_in (add_arrays (hsz := by simp only [Array.length_toList, List.size_toArray]; rw [hl, sizeLine_eq]; omega) F₁ N₁ (listAt N₁ (.tail _ (.tail _ (.head _)))) (listAt N₁ (.head _)) fun h₂ F₂ N₂ => ?_)
    clear F₁ N₁
    k_steps
    rename Fr _ _ _ _ => F₃
    rename News _ _ _ _ => N₃
    rw [map_twice] at F₃
    refine hQ _ _ _ (its.toList ++ ys.toArray.toList).toArray F₃ (fun p hp => ?_) hlt (by rw [arr_size, hl]; omega) ?_ ?_
    · rcases List.mem_cons.mp hp with rfl | hp
      · exact N₃ _ (.head _)
      · exact N₃ _ (.tail _ (.tail _ (.tail _ (.tail _ hp))))
    · intro k hk
      rw [arr_left hk]
      exact hits k hk
    · intro k hk
      rw [arr_right]
      obtain ⟨v, e, t, rfl⟩ := hy k hk
      exact ⟨t, e⟩
  · rintro i ys nw v I oI C oC D m₂ h tk E' hi ⟨rfl, hl, hy⟩ hP hC hx F N off ne
    obtain ⟨t, ht⟩ := hits i hi
    rw [ht] at hP
    cases hP
    k_steps
    refine hold_in (LCg.CompEnd.intro F N ((L + 1 + 1 + 1, ou) :: (fi, W.listOf its n) :: news) (fun _ h => h) off (.inr ⟨_, .tail _ (.head _), rfl, _, rfl⟩) ⟨rfl, by rw [List.length_append, hl]; rfl, snoc_all hl hy ⟨_, by rw [Int.natCast_add]⟩⟩)
theorem seconds8 {w : World} {A : Around} {s : Shared} {Q : Flow → Shared → Prop} {p : Program} {loose : List PySem.Str} {mean : ExcName → Option Value} {mg mb : PySem.Str → Option Value} {h₀ : Heap} {L fa : Addr} {m : PySem.Str → Option Value} {news : List (Addr × Obj)}
    (X : (Mine.hd.heap_39 w.params).In h₀) (T : Top p loose mean mg mb h₀) (hroom : A.depth + 5 < recursionLimit) (hh : A.handled = none)
    (F : Fr h₀ L s.heap m) (N : News h₀ L s.heap news) {fi : Addr} {its : Array Value} {n : Nat} {ou : Obj} {u : Nat} {tu : Tok} (hm : m (Str.ofString "seconds") = some (.ref fi)) (hfi : (fi, W.listOf its n) ∈ news) (hou : (L + 1 + 1 + 1 + 1, ou) ∈ news) (hod : ou.data = .cell (some (.int (u : Int) tu)))
    (g : Nat → Nat) (hits : ∀ k, k < its.size → ∃ t, its[k]? = some (.int (g k : Nat) t)) (hsz : its.size ≤ 16)
    (hQ : ∀ h' tk D its', Fr h₀ L h' (fun z => if z = Str.ofString "seconds" then some (.ref D) else m z) → News h₀ L h' ((D, W.listOf its' 0) :: news) → (∀ p ∈ news, p.1 < D) → its'.size = 2 * its.size → (∀ k, k < its.size → ∃ t, its'[k]? = some (.int (g k : Nat) t)) → (∀ k, k < its.size → ∃ t, its'[its.size + k]? = some (.int (g k + u : Nat) t)) → Q .next { s with heap := h', toks := tk }) :
    wpAny (model prog w) A (exec (inAt 8 8) (lawEnv L fa)) Q NoE s := by
  obtain ⟨hd, d, fr, gu, un⟩ := A
  cases hh
  rw [map1 hm] at F
  have N' : News h₀ L s.heap ((L + 1 + 1 + 1 + 1, ou) :: (fi, W.listOf its n) :: news) := fun p hp => by
    rcases List.mem_cons.mp hp with rfl | hp
    · exact N _ hou
    · rcases List.mem_cons.mp hp with rfl | hp
      · exact N _ hfi
      · exact N _ hp
  clear N
  conv in (inAt 8 8) => whnf
  k_steps
  refine hold_in (LCg.CompSrc.ledger rfl F N' (.tail _ (.head _)) (by rw [sizeLine_eq]; omega) fun g' => ?_)
  refine rest_ind (fun i ys nw => nw = (L + 1 + 1 + 1 + 1, ou) :: (fi, W.listOf its n) :: news ∧ ys.length = i ∧ ∀ k, k < i → ∃ v, ys[k]? = some v ∧ ∃ t, v = .int (g k + u : Nat) t) ⟨rfl, rfl, fun _ h => absurd h (Nat.not_lt_zero _)⟩ ?_ ?_
  · rintro ys nw ⟨rfl, hl, hy⟩
    k_steps
    rename Fr _ _ _ _ => F₁
    rename News _ _ _ _ => N₁
    have hlt : ∀ p ∈ news, p.1 < _ := fun p hp => Heap.lt_size (N₁ p (.tail _ (.tail _ (.tail _ hp)))).1
    refine hold_in (add_arrays (hsz := by simp only [Array.length_toList, List.size_toArray]; rw [hl, sizeLine_eq]; omega) F₁ N₁ (listAt N₁ (.tail _ (.tail _ (.head _)))) (listAt N₁ (.head _)) fun h₂ F₂ N₂ => ?_)
    clear F₁ N₁
    k_steps
    rename Fr _ _ _ _ => F₃
    rename News _ _ _ _ => N₃
    rw [map_twice] at F₃
    refine hQ _ _ _ (its.toList ++ ys.toArray.toList).toArray F₃ (fun p hp => ?_) hlt (by rw [arr_size, hl]; omega) ?_ ?_
    · rcases List.mem_cons.mp hp with rfl | hp
      · exact N₃ _ (.head _)
      · exact N₃ _ (.tail _ (.tail _ (.tail _ (.tail _ hp))))
    · intro k hk
      rw [arr_left hk]
      exact hits k hk
    · intro k hk
      rw [arr_right]
      obtain ⟨v, e, t, rfl⟩ := hy k hk
      exact ⟨t, e⟩
  · rintro i ys nw v I oI C oC D m₂ h tk E' hi ⟨rfl, hl, hy⟩ hP hC hx F N off ne
    obtain ⟨t, ht⟩ := hits i hi
    rw [ht] at hP
    cases hP
    k_steps
    refine hold_in (LCg.CompEnd.intro F N ((L + 1 + 1 + 1 + 1, ou) :: (fi, W.listOf its n) :: news) (fun _ h => h) off (.inr ⟨_, .tail _ (.head _), rfl, _, rfl⟩) ⟨rfl, by rw [List.length_append, hl]; rfl, snoc_all hl hy ⟨_, by rw [Int.natCast_add]⟩⟩)
end
end Mine
end

-- L2b
section
open PySem PySem.W PyProof.Rows in
theorem Mine.resetL2b : True ∧ True := by
  w_top off
  walk1
  all_goals exact True.intro
end
section
open PySem PySem.W PyProof.Rows PySem.Calls
namespace Mine
theorem news_lt {h₀ h : Heap} {L : Addr} {news : List (Addr × Obj)} (N : News h₀ L h news) : ∀ p ∈ news, p.1 < h.objs.size := fun p hp => Heap.lt_size (N p hp).1
theorem add_at {w : World} {A : Around} {E : Value → Shared → Prop} {s : Shared} {h₀ : Heap} {L a b : Addr} {m : PySem.Str → Option Value} {news : List (Addr × Obj)} {vs ws : List Value} {n n' : Nat} {Q : Value → Shared → Prop} (F : Fr h₀ L s.heap m) (N : News h₀ L s.heap news) (ha : (a, W.listOf (List.toArray vs) n) ∈ news) (hb : (b, W.listOf (List.toArray ws) n') ∈ news) (hz : vs.length + ws.length ≤ 1000)
    (h : ∀ h' S, Fr h₀ L h' m → News h₀ L h' ((S, W.listOf (List.toArray (vs ++ ws)) 0) :: news) → (∀ p ∈ news, p.1 < S) → Q (.ref S) { s with heap := h' }) :
    wpAny (model prog w) A (binaryOp .Add (.ref a) (.ref b)) Q E s :=
  add_arrays (its := vs.toArray) (its2 := ws.toArray) (hsz := by rw [List.size_toArray, List.size_toArray, sizeLine_eq]; omega) F N (listAt N ha) (listAt N hb) fun h' F' N' => h h' _ F' N' (news_lt N)
section
local macro_rules | `(tactic| walk_at "CompSrc") => `(tactic| refine hold_out ?_)
local macro_rules | `(tactic| walk_at "CompEnd") => `(tactic| refine hold_out ?_)
local macro_rules | `(tactic| walk_at "binaryOp Add ref ref") => `(tactic| refine hold_out ?_)
local macro_rules | `(tactic| walk_at "subscriptTail Name Name ref int") => `(tactic| refine hold_out ?_)
theorem choices6 {w : World} {A : Around} {s : Shared} {Q : Flow → Shared → Prop} {p : Program} {loose : List PySem.Str} {mean : ExcName → Option Value} {mg mb : PySem.Str → Option Value} {h₀ : Heap} {L fa : Addr} {m : PySem.Str → Option Value} {news : List (Addr × Obj)}
    (X : (Mine.hd.heap_39 w.params).In h₀) (T : Top p loose mean mg mb h₀) (hroom : A.depth + 5 < recursionLimit) (hh : A.handled = none)
    (F : Fr h₀ L s.heap m) (N : News h₀ L s.heap news) {ch lb : Addr} {its lits : Array Value} {n ln : Nat} {ok ol : Obj} {u : Nat} {tu tn : Tok} {nm : PySem.Str} (hm : m (Str.ofString "choices") = some (.ref ch)) (hch : (ch, W.listOf its n) ∈ news)
    (hok : (L + 1, ok) ∈ news) (hokd : ok.data = .cell (some (.int (u : Int) tu))) (hol : (L + 1 + 1, ol) ∈ news) (hold : ol.data = .cell (some (.ref lb))) (hlb : (lb, W.listOf lits ln) ∈ news) (hli : lits[u]? = some (.str nm tn)) (hu5 : u < 5)
    (c : Nat → List PySem.Str) (hits : ∀ k, k < its.size → ∃ r vs n', its[k]? = some (.ref r) ∧ (r, W.listOf (List.toArray vs) n') ∈ news ∧ StrsAre vs (c k)) (hc : ∀ k, k < its.size → (c k).length ≤ 5) (hsz : its.size ≤ 16)
    (hQ : ∀ h' tk D its' ex, Fr h₀ L h' (fun z => if z = Str.ofString "choices" then some (.ref D) else m z) → News h₀ L h' ((D, W.listOf its' 0) :: (ex ++ news)) → (∀ p ∈ ex, ∀ q ∈ news, q.1 < p.1) → (∀ q ∈ ex ++ news, q.1 < D) → its'.size = 2 * its.size → (∀ k, k < its.size → its'[k]? = its[k]?) →
      (∀ k, k < its.size → ∃ r vs n', its'[its.size + k]? = some (.ref r) ∧ (r, W.listOf (List.toArray vs) n') ∈ ex ∧ StrsAre vs (c k ++ [nm])) → Q .next { s with heap := h', toks := tk }) :
    wpAny (model prog w) A (exec (inAt 8 6) (lawEnv L fa)) Q NoE s := by
  obtain ⟨hd, d, fr, gu, un⟩ := A
  cases hh
  rw [map1 hm] at F
  have N' : News h₀ L s.heap ((L + 1, ok) :: (L + 1 + 1, ol) :: (lb, W.listOf lits ln) :: (ch, W.listOf its n) :: news) := fun p hp => by
    rcases List.mem_cons.mp hp with rfl | hp
    · exact N _ hok
    rcases List.mem_cons.mp hp with rfl | hp
    · exact N _ hol
    rcases List.mem_cons.mp hp with rfl | hp
    · exact N _ hlb
    rcases List.mem_cons.mp hp with rfl | hp
    · exact N _ hch
    · exact N _ hp
  clear N
  conv in (inAt 8 6) => whnf
  k_steps
  refine hold_in (LCg.CompSrc.ledger rfl F N' (.tail _ (.tail _ (.tail _ (.head _)))) (by rw [sizeLine_eq]; omega) fun g' => ?_)
  refine rest_ind (fun i ys nw => ∃ ex, nw = (L + 1, ok) :: (L + 1 + 1, ol) :: (lb, W.listOf lits ln) :: (ch, W.listOf its n) :: (ex ++ news) ∧ (∀ p ∈ ex, ∀ q ∈ news, q.1 < p.1) ∧ ys.length = i ∧ ∀ k, k < i → ∃ v, ys[k]? = some v ∧ ∃ r vs n', v = .ref r ∧ (r, W.listOf (List.toArray vs) n') ∈ ex ∧ StrsAre vs (c k ++ [nm])) ⟨[], rfl, (fun _ h => nomatch h), rfl, fun _ h => absurd h (Nat.not_lt_zero _)⟩ ?_ ?_
  · rintro ys nw ⟨ex, rfl, hex, hl, hy⟩
    k_steps
    rename Fr _ _ _ _ => F₁
    rename News _ _ _ _ => N₁
    have hlt : ∀ p ∈ ex ++ news, p.1 < _ := fun p hp => Heap.lt_size (N₁ p (.tail _ (.tail _ (.tail _ (.tail _ (.tail _ hp)))))).1
    refine hold_in (add_arrays (hsz := by simp only [List.size_toArray]; rw [hl, sizeLine_eq]; omega) F₁ N₁ (listAt N₁ (.tail _ (.tail _ (.tail _ (.tail _ (.head _)))))) (listAt N₁ (.head _)) fun h₂ F₂ N₂ => ?_)
    clear F₁ N₁
    k_steps
    rename Fr _ _ _ _ => F₃
    rename News _ _ _ _ => N₃
    rw [map_twice] at F₃
    refine hQ _ _ _ (its.toList ++ ys.toArray.toList).toArray ex F₃ (fun p hp => ?_) hex hlt (by rw [arr_size, hl]; omega) ?_ ?_
    · rcases List.mem_cons.mp hp with rfl | hp
      · exact N₃ _ (.head _)
      · exact N₃ _ (.tail _ (.tail _ (.tail _ (.tail _ (.tail _ (.tail _ hp))))))
    · intro k hk
      exact arr_left hk
    · intro k hk
      rw [arr_right]
      obtain ⟨v, e, r, vs, n', rfl, h1, h2⟩ := hy k hk
      exact ⟨r, vs, n', e, h1, h2⟩
  · rintro i ys nw v I oI C oC D m₂ h tk E' hi ⟨ex, rfl, hex, hl, hy⟩ hP hC hx F N off ne
    obtain ⟨r, vs, n', hr, hrm, hvs⟩ := hits i hi
    rw [hr] at hP
    cases hP
    k_steps
    refine hold_in (item_nat (i := u) (listAt N (.tail _ (.tail _ (.tail _ (.tail _ (.tail _ (.head _))))))) rfl (by omega) hli ?_)
    k_steps
    rename Fr _ _ _ _ => F₁
    rename News _ _ _ _ => N₁
    have hvl : vs.length ≤ 5 := by rw [hvs.length]; exact hc i hi
    refine hold_in (add_at (ws := [.str nm tn]) F₁ N₁ (.tail _ (.tail _ (.tail _ (.tail _ (.tail _ (.tail _ (.tail _ (.tail _ (List.mem_append_right _ hrm))))))))) (.head _) (by simp only [List.length_cons, List.length_nil]; omega) fun h₂ S F₂ N₂ hlt => ?_)
    refine LCg.CompEnd.intro F₂ N₂ ((L + 1, ok) :: (L + 1 + 1, ol) :: (lb, W.listOf lits ln) :: (ch, W.listOf its n) :: (((S, W.listOf (List.toArray (vs ++ [.str nm tn])) 0) :: ex) ++ news)) ?_ ?_ (.inr ⟨_, .tail _ (.tail _ (.tail _ (.head _))), rfl, _, rfl⟩) ⟨(S, W.listOf (List.toArray (vs ++ [.str nm tn])) 0) :: ex, rfl, ?_, by rw [List.length_append, hl]; rfl, ?_⟩
    · intro p hp
      simp only [List.mem_cons, List.mem_append, List.cons_append] at hp ⊢
      rcases hp with h | h | h | h | h | h | h | h | h | h
      · simp [h]
      · simp [h]
      · simp [h]
      · simp [h]
      · simp [h]
      · simp [h]
      · simp [h]
      · exact .inl h
      · simp [h]
      · simp [h]
    · refine LCg.Off3.of fun p hp => ?_
      have old := off.mem
      simp only [List.mem_cons, List.mem_append, List.cons_append] at hp old
      rcases hp with h | h | h | h | h | h
      · exact old _ (.inl h)
      · exact old _ (.inr (.inl h))
      · exact old _ (.inr (.inr (.inl h)))
      · exact old _ (.inr (.inr (.inr (.inl h))))
      · subst h
        exact ⟨Ne.symm (Nat.ne_of_lt (hlt (I, oI) (.tail _ (.head _)))), Ne.symm (Nat.ne_of_lt (hlt (C, oC) (.tail _ (.tail _ (.head _))))), Ne.symm (Nat.ne_of_lt (hlt (D, LCg.lst ys) (.tail _ (.tail _ (.tail _ (.head _))))))⟩
      · exact old _ (.inr (.inr (.inr (.inr h))))
    · intro p hp q hq
      rcases List.mem_cons.mp hp with rfl | hp
      · exact hlt q (.tail _ (.tail _ (.tail _ (.tail _ (.tail _ (.tail _ (.tail _ (.tail _ (List.mem_append_right _ hq)))))))))
      · exact hex p hp q hq
    · refine snoc_all hl (fun k hk => ?_) ⟨S, _, _, rfl, .head _, strs_push hvs nm tn⟩
      obtain ⟨v, e, r, us, n'', a1, a2, a3⟩ := hy k hk
      exact ⟨v, e, r, us, n'', a1, .tail _ a2, a3⟩
end
end Mine
end

-- L2c
section
open PySem PySem.W PyProof.Rows in
theorem Mine.resetL2c : True ∧ True := by
  w_top off
  walk1
  all_goals exact True.intro
end
section
open PySem PySem.W PyProof.Rows PySem.Calls
namespace Mine
theorem mod_nat {w : World} {A : Around} {E : Value → Shared → Prop} {s : Shared} {Q : Value → Shared → Prop} {a : Int} {n b : Nat} (c : Nat) {t u : Tok} (ha : a = (n : Int)) (hb : 0 < b) (hc : n % b = c) (h : ∀ t tk, Q (.int (c : Int) t) { s with toks := tk }) : wpAny (model prog w) A (binaryOp .Mod (.int a t) (.int (b : Int) u)) Q E s := by
  refine mod_int' (by omega) ?_
  rw [ha, Int.fmod_eq_emod_of_nonneg _ (by omega), ← Int.natCast_emod, hc]
  exact h _ _
theorem div_nat {w : World} {A : Around} {E : Value → Shared → Prop} {s : Shared} {Q : Value → Shared → Prop} {a : Int} {n b : Nat} (c : Nat) {t u : Tok} (ha : a = (n : Int)) (hb : 0 < b) (hn : n < 1000) (hb' : b < 1000) (hc : n / b = c) (h : ∀ t tk, Q (.int (c : Int) t) { s with toks := tk }) : wpAny (model prog w) A (binaryOp .FloorDiv (.int a t) (.int (b : Int) u)) Q E s := by
  subst ha
  refine floordiv_int (by omega) ?_
  rw [Int.fdiv_eq_ediv_of_nonneg _ (by omega), ← Int.natCast_ediv, hc]
  exact h _ _
theorem tup_nat {w : World} {A : Around} {E : Value → Shared → Prop} {s : Shared} {Q : Value → Shared → Prop} {value slice : Expr} {D : Addr} {its : Array Value} {k : Int} {i : Nat} {v : Value} {u : Tok} (hl : IsTup s.heap D its) (hk : k = (i : Int)) (hi : i < 1000) (hv : its[i]? = some v) (h : Q v s)
    (hs : subscripted slice false (.ref D) (.int k u) = operate [.ref D, .int k u] (getItem (.ref D) (.int k u)) := by with_unfolding_all rfl) :
    wpAny (model prog w) A (subscriptTail value slice (.ref D) (.int k u)) Q E s := by
  subst hk
  have hn : i < its.size := by
    rcases Nat.lt_or_ge i its.size with q | q
    · exact q
    · rw [Array.getElem?_eq_none q] at hv; cases hv
  exact tail_any hl.typeIs slot_tuple_getitem.lookup (getItem_tuple hl (by omega) (by omega) (seqIndex_of (by omega) (by omega)) (by rw [Int.toNat_natCast]; exact hv) h) hs
theorem ends_at (t1 t2 t3 : Tok) {e : Nat} (he : e < 3) : ∃ te, (#[.str (Str.ofString "\n") t1, .str (Str.ofString "\r") t2, .str (Str.ofString "\r\n") t3] : Array Value)[e]? = some (.str (ends e) te) := by
  rcases (show e = 0 ∨ e = 1 ∨ e = 2 by omega) with rfl | rfl | rfl
  · exact ⟨t1, rfl⟩
  · exact ⟨t2, rfl⟩
  · exact ⟨t3, rfl⟩
theorem mul_dots : (List.range 5).all (fun k => (Txt.mul (Str.ofString ".") (k : Int)).cps.toList == (dots k).cps.toList) = true := by decide +kernel
theorem dot_mul {w : World} {A : Around} {E : Value → Shared → Prop} {s : Shared} {Q : Value → Shared → Prop} {n : Int} {t u : Tok} (k : Nat) (hn : n = (k : Int)) (hk : k < 5) (h : ∀ t tk, Q (.str (dots k) t) { s with toks := tk }) : wpAny (model prog w) A (binaryOp .Mult (.str (Str.ofString ".") t) (.int n u)) Q E s := by
  subst hn
  have e : Txt.mul (Str.ofString ".") (k : Int) = dots k := str_eq (eq_of_beq (List.all_eq_true.mp mul_dots k (List.mem_range.mpr hk)))
  refine SB.mul ?_ fun t' k' => ?_
  · rcases (show k = 0 ∨ k = 1 ∨ k = 2 ∨ k = 3 ∨ k = 4 by omega) with rfl | rfl | rfl | rfl | rfl
    all_goals exact ⟨by decide +kernel, by decide +kernel, by decide +kernel⟩
  · rw [e]; exact h _ _
theorem add_strs {w : World} {A : Around} {E : Value → Shared → Prop} {s : Shared} {Q : Value → Shared → Prop} {x y : PySem.Str} {t u : Tok} (hz : x.length + y.length ≤ 1000) (h : ∀ t' tk, Q (.str (x ++ y) t') { s with toks := tk }) : wpAny (model prog w) A (binaryOp .Add (.str x t) (.str y u)) Q E s :=
  PyProof.Rows.add_str h (by rw [sizeLine_eq]; omega)
def okSent (a b : Nat) : Bool :=
  let x := sentOf a b
  cutL [13, 10] (x.length + 2) x.cps.toList == [dots a, dots b, Str.ofString ""].map (·.cps.toList) && x.cps.toList.all (· < 256) && PyData.strOk (dots a) && PyData.strOk (dots b)
theorem okSent_all : (List.range 3).all (fun u => (List.range 3).all fun l => okSent (u + 2) (l + 2)) = true := by decide +kernel
theorem okSent_of {u l : Nat} (hu : u < 3) (hl : l < 3) : okSent (u + 2) (l + 2) = true :=
  List.all_eq_true.mp (List.all_eq_true.mp okSent_all u (List.mem_range.mpr hu)) l (List.mem_range.mpr hl)
theorem toList_inj : ∀ {a b : List PySem.Str}, a.map (·.cps.toList) = b.map (·.cps.toList) → a = b
  | [], [], _ => rfl
  | [], _ :: _, h => by simp at h
  | _ :: _, [], h => by simp at h
  | x :: a, y :: b, h => by
    simp only [List.map_cons, List.cons.injEq] at h
    rw [str_eq h.1, toList_inj h.2]
theorem sent_split {u l : Nat} (hu : u < 3) (hl : l < 3) : Txt.split (sentOf (u + 2) (l + 2)) (Str.ofString "\r\n") = [dots (u + 2), dots (l + 2), Str.ofString ""] := by
  have h := okSent_of hu hl
  unfold okSent at h
  obtain ⟨h1, _⟩ := Bool.and_eq_true_iff.mp h
  obtain ⟨h1, _⟩ := Bool.and_eq_true_iff.mp h1
  obtain ⟨h1, h2⟩ := Bool.and_eq_true_iff.mp h1
  refine toList_inj ?_
  rw [split_cut _ _ (by decide) (by
    rw [kind_of (x := sentOf _ _), show Builtin.Str.strKind (Str.ofString "\r\n") = 1 by decide +kernel]
    · exact Nat.le_refl _
    · intro c hc
      exact of_decide_eq_true (List.all_eq_true.mp h2 c hc))]
  exact eq_of_beq h1
theorem sent_ok {u l : Nat} (hu : u < 3) (hl : l < 3) : ∀ x ∈ [dots (u + 2), dots (l + 2), Str.ofString ""], PyData.strOk x = true := by
  have h := okSent_of hu hl
  unfold okSent at h
  obtain ⟨h1, h3⟩ := Bool.and_eq_true_iff.mp h
  obtain ⟨_, h2⟩ := Bool.and_eq_true_iff.mp h1
  intro x hx
  simp only [List.mem_cons, List.not_mem_nil, or_false] at hx
  rcases hx with rfl | rfl | rfl
  · exact h2
  · exact h3
  · decide +kernel
theorem three_of {l : List (PySem.Str × Tok)} {x y z : PySem.Str} (h : l.map (·.1) = [x, y, z]) : ∃ t1 t2 t3, l = [(x, t1), (y, t2), (z, t3)] := by
  match l, h with
  | [(a, t1), (b, t2), (c, t3)], h =>
    simp only [List.map_cons, List.map_nil, List.cons.injEq, and_true] at h
    obtain ⟨rfl, rfl, rfl⟩ := h
    exact ⟨t1, t2, t3, rfl⟩
theorem map1_in {m : PySem.Str → Option Value} {a b : PySem.Str} {x v : Value} (h : m a = some x) : (fun y => if y = b then some v else if y = a then some x else m y) = fun y => if y = b then some v else m y := by
  funext y; by_cases q : y = b <;> by_cases q' : y = a <;> simp_all
section
local macro_rules | `(tactic| walk_at "call ref") => `(tactic| refine hold_out ?_)
local macro_rules | `(tactic| walk_at "call builtin:str.split") => `(tactic| refine hold_out ?_)
local macro_rules | `(tactic| walk_at "binaryOp Mod int int") => `(tactic| refine hold_out ?_)
local macro_rules | `(tactic| walk_at "binaryOp FloorDiv int int") => `(tactic| refine hold_out ?_)
local macro_rules | `(tactic| walk_at "subscriptTail Name Name ref int") => `(tactic| refine hold_out ?_)
local macro_rules | `(tactic| walk_at "subscriptTail Tuple BinOp ref int") => `(tactic| refine hold_out ?_)
theorem headA {w : World} {A : Around} {s : Shared} {Q : Flow → Shared → Prop} {p : Program} {loose : List PySem.Str} {mean : ExcName → Option Value} {mg mb : PySem.Str → Option Value} {h₀ : Heap} {L fa : Addr} {m : PySem.Str → Option Value} {news : List (Addr × Obj)}
    (X : (Mine.hd.heap_39 w.params).In h₀) (T : Top p loose mean mg mb h₀) (hroom : A.depth + 5 < recursionLimit) (hh : A.handled = none)
    {nu : Addr} {its : Array Value} {nn : Nat} {ok ou ol : Obj} {i u l e : Nat} {ti tx : Tok} {kv1 kv2 : Option Value}
    (F : Fr h₀ L s.heap m) (N : News h₀ L s.heap ((L + 1, ok) :: (L + 1 + 1 + 1, ou) :: (L + 1 + 1 + 1 + 1, ol) :: news)) (hokd : ok.data = .cell (some (.int (i : Int) ti))) (houd : ou.data = .cell kv1) (hold : ol.data = .cell kv2)
    (hm : m (Str.ofString "numbers") = some (.ref nu)) (hnu : (nu, W.listOf its nn) ∈ news) (hi : i < 5) (hx : its[i]? = some (.int ((9 * e + 3 * l + u : Nat) : Int) tx)) (hu : u < 3) (hl : l < 3) (he : e < 3)
    (hoff : OwnOff news [L + 1, L + 1 + 1 + 1, L + 1 + 1 + 1 + 1])
    (hQ : ∀ h' tk ou' ol' te t1 t2, Fr h₀ L h' (fun z => if z = Str.ofString "end" then some (.str (ends e) te) else m z) → News h₀ L h' ((L + 1, ok) :: (L + 1 + 1 + 1, ou') :: (L + 1 + 1 + 1 + 1, ol') :: news) →
      ou'.data = .cell (some (.int ((u + 2 : Nat) : Int) t1)) → ol'.data = .cell (some (.int ((l + 2 : Nat) : Int) t2)) → Q .next { s with heap := h', toks := tk }) :
    wpAny (model prog w) A (execs [inAt 8 0, inAt 8 1, inAt 8 2] (lawEnv L fa)) Q NoE s := by
  obtain ⟨hd, d, fr, gu, un⟩ := A
  cases hh
  rw [map1 hm] at F
  conv in (inAt 8 0) => whnf
  conv in (inAt 8 1) => whnf
  conv in (inAt 8 2) => whnf
  k_steps
  refine hold_in (item_nat (i := i) (listAt N (.tail _ (.tail _ (.tail _ hnu)))) rfl (by omega) hx ?_)
  k_steps
  refine hold_in (mod_nat (b := 3) u rfl (by decide) (by omega) fun _ _ => ?_)
  k_steps
  rename Fr _ _ _ _ => F
  rename News _ _ _ _ => N
  refine hold_in (item_nat (i := i) (listAt N (.tail _ (.tail _ (.tail _ hnu)))) rfl (by omega) hx ?_)
  k_steps
  refine hold_in (div_nat (b := 3) (3 * e + l) rfl (by decide) (by omega) (by decide) (by omega) fun _ _ => ?_)
  k_steps
  refine hold_in (mod_nat (b := 3) l rfl (by decide) (by omega) fun _ _ => ?_)
  k_steps
  rename Fr _ _ _ _ => F
  rename News _ _ _ _ => N
  refine hold_in (item_nat (i := i) (listAt N (.tail _ (.tail _ (.tail _ (.tail _ hnu))))) rfl (by omega) hx ?_)
  k_steps
  refine hold_in (div_nat (b := 9) e rfl (by decide) (by omega) (by decide) (by omega) fun _ _ => ?_)
  k_steps
  refine tup_nat (i := e) (News.isTup N (.head _)) rfl (by omega) (ends_at _ _ _ he).choose_spec ?_
  k_steps
  rename Fr _ _ _ _ => F
  rename News _ _ _ _ => N
  rw [map1_in hm] at F
  exact hQ _ _ _ _ _ _ _ F (fun p hp => N p (.tail _ hp)) (by assumption) (by assumption)
end
section
local macro_rules | `(tactic| walk_at "call ref") => `(tactic| refine hold_out ?_)
local macro_rules | `(tactic| walk_at "call builtin:str.split") => `(tactic| refine hold_out ?_)
local macro_rules | `(tactic| walk_at "binaryOp Mult str int") => `(tactic| refine hold_out ?_)
local macro_rules | `(tactic| walk_at "binaryOp Add str str") => `(tactic| (refine add_strs (by simp only [PySem.Str.length_append, dots_len]; omega) ?_; intro _ tk))
local macro_rules | `(tactic| walk_at "compareOp NotEq ref ref") => `(tactic| refine hold_out ?_)
theorem headB {w : World} {A : Around} {s : Shared} {Q : Flow → Shared → Prop} {p : Program} {loose : List PySem.Str} {mean : ExcName → Option Value} {mg mb : PySem.Str → Option Value} {h₀ : Heap} {L fa : Addr} {m : PySem.Str → Option Value} {news : List (Addr × Obj)}
    (X : (Mine.hd.heap_39 w.params).In h₀) (T : Top p loose mean mg mb h₀) (hroom : A.depth + 5 < recursionLimit) (hu : A.units + 100 < cLine) (hh : A.handled = none)
    {ou ol : Obj} {u l e : Nat} {te t1 t2 : Tok}
    (F : Fr h₀ L s.heap m) (N : News h₀ L s.heap ((L + 1 + 1 + 1, ou) :: (L + 1 + 1 + 1 + 1, ol) :: news)) (houd : ou.data = .cell (some (.int ((u + 2 : Nat) : Int) t1))) (hold : ol.data = .cell (some (.int ((l + 2 : Nat) : Int) t2)))
    (hm : m (Str.ofString "end") = some (.str (ends e) te)) (hu3 : u < 3) (hl3 : l < 3) (he : e < 3)
    (hQ : ∀ h' tk D t1 t2 t3, Fr h₀ L h' (fun z => if z = Str.ofString "rows" then some (.ref D) else m z) → News h₀ L h' ((D, W.listOf #[.str (dots (u + 2)) t1, .str (dots (l + 2)) t2, .str (Str.ofString "") t3] 0) :: (L + 1 + 1 + 1, ou) :: (L + 1 + 1 + 1 + 1, ol) :: news) →
      (∀ p ∈ (L + 1 + 1 + 1, ou) :: (L + 1 + 1 + 1 + 1, ol) :: news, p.1 < D) → Q .next { s with heap := h', toks := tk }) :
    wpAny (model prog w) A (execs [inAt 8 3, inAt 8 4] (lawEnv L fa)) Q NoE s := by
  obtain ⟨hd, d, fr, gu, un⟩ := A
  cases hh
  rw [map1 hm] at F
  conv in (inAt 8 3) => whnf
  conv in (inAt 8 4) => whnf
  k_steps
  have hel := ends_len e
  refine hold_in (dot_mul (u + 1) (by omega) (by omega) fun _ _ => ?_)
  k_steps
  refine hold_in (dot_mul (l + 1) (by omega) (by omega) fun _ _ => ?_)
  k_steps
  have hroom' : Around.depth { depth := d, frames := fr, guards := gu, units := un } < recursionLimit := Nat.lt_of_le_of_lt (Nat.le_add_right _ 5) hroom
  refine hold_in (wpAny_call ?_)
  refine quo1 (u := u + 1) (l := l + 1) (e := e) (p := p) (loose := loose) (mean := mean) (mg := mg) (mb := mb) ?_ ?_ hroom' rfl (by omega) (by omega) (by omega) (by omega) he ?_
  · exact X.keeps F.keep
  · exact T.keeps F.keep
  intro h₂ tk₂ t₂ k₂
  have F₂ := F.keeps k₂
  have N₂ := N.grown k₂
  clear F N k₂
  k_steps
  refine hold_in (splitN1 (hsz := by have := sent_len (show u + 1 ≤ 3 by omega) (show l + 1 ≤ 3 by omega); unfold sentOf at *; simp only [PySem.Str.length_append, dots_len] at *; rw [sizeLine_eq]; omega) F₂ N₂ (by decide) ?_)
  intro ps h₃ k₃ hps F₃ N₃
  rw [show u + 1 + 1 = u + 2 from rfl, show l + 1 + 1 = l + 2 from rfl, sent_split hu3 hl3] at hps
  obtain ⟨q1, q2, q3, rfl⟩ := three_of hps
  have hlt := news_lt N₂
  generalize h₂.objs.size = D at *
  clear F₂ N₂ hps
  k_steps
  refine hold_in (dot_mul (u + 2) rfl (by omega) fun _ _ => ?_)
  k_steps
  refine hold_in (dot_mul (l + 2) rfl (by omega) fun _ _ => ?_)
  k_steps
  rename Fr _ _ _ _ => F
  rename News _ _ _ _ => N
  refine hold_in (ne_same_strs (listAt N (.tail _ (.head _))) (.cons _ _ (.cons _ _ (.cons _ _ .nil))) (vs := [_, _, _]) (us := [_, _, _]) (listAt N (.head _)) (.cons _ _ (.cons _ _ (.cons _ _ .nil))) (sent_ok hu3 hl3) (by show un + 64 < cLine; have : un + 100 < cLine := hu; omega) ?_)
  k_steps
  rw [map1_in hm] at F
  exact hQ _ _ D q1 q2 q3 F (fun p hp => N p (.tail _ hp)) hlt
end
end Mine
end

-- L2d
section
open PySem PySem.W PyProof.Rows in
theorem Mine.resetL2d : True ∧ True := by
  w_top off
  walk1
  all_goals exact True.intro
end
section
open PySem PySem.W PyProof.Rows PySem.Calls
namespace Mine
theorem put_ne {k x : PySem.Str} {v : Value} (h : x ≠ k) : ∀ kvs : List (PySem.Str × Value), valueAt (kvs.map fun kv => if kv.1 = k then (kv.1, v) else kv) x = valueAt kvs x
  | [] => rfl
  | p :: r => by
    have ih := put_ne (v := v) h r
    unfold valueAt at ih ⊢
    rw [List.map_cons, List.find?_cons, List.find?_cons]
    by_cases hp : p.1 = k
    · have hx : decide (p.1 = x) = false := decide_eq_false (by rw [hp]; exact Ne.symm h)
      simp only [hp, if_true] at hx ⊢
      rw [hx]
      exact ih
    · simp only [hp, if_false]
      cases decide (p.1 = x) with
      | true => rfl
      | false => exact ih
theorem put_eq {k : PySem.Str} {v : Value} : ∀ kvs : List (PySem.Str × Value), kvs.any (fun kv => kv.1 = k) = true → valueAt (kvs.map fun kv => if kv.1 = k then (kv.1, v) else kv) k = some v
  | [], h => by simp at h
  | p :: r, h => by
    unfold valueAt
    rw [List.map_cons, List.find?_cons]
    by_cases hp : p.1 = k
    · simp [hp]
    · simp only [hp, if_false, decide_false]
      have ih := put_eq (v := v) r (by simpa [hp] using h)
      unfold valueAt at ih
      exact ih
theorem add_ne {k x : PySem.Str} {v : Value} (h : x ≠ k) (kvs : List (PySem.Str × Value)) : valueAt (kvs ++ [(k, v)]) x = valueAt kvs x := by
  unfold valueAt
  rw [List.find?_append]
  have : ([(k, v)] : List (PySem.Str × Value)).find? (fun kv => decide (kv.1 = x)) = none := by simp [Ne.symm h]
  rw [this, Option.or_none]
theorem add_eq {k : PySem.Str} {v : Value} (kvs : List (PySem.Str × Value)) (h : ¬ kvs.any (fun kv => kv.1 = k) = true) : valueAt (kvs ++ [(k, v)]) k = some v := by
  unfold valueAt
  rw [List.find?_append]
  have : kvs.find? (fun kv => decide (kv.1 = k)) = none := by
    rw [List.find?_eq_none]
    intro p hp q
    exact h (List.any_eq_true.mpr ⟨p, hp, q⟩)
  rw [this]
  simp
theorem valueAt_put (kvs : List (PySem.Str × Value)) (k x : PySem.Str) (v : Value) : valueAt (stored kvs k v) x = if x = k then some v else valueAt kvs x := by
  unfold stored
  by_cases q : x = k
  · subst q
    rw [if_pos rfl]
    split
    · rename_i h; exact put_eq kvs h
    · rename_i h; exact add_eq kvs h
  · rw [if_neg q]
    split
    · exact put_ne q kvs
    · exact add_ne q kvs
section
local macro_rules | `(tactic| walk_at "setItem ref str") => `(tactic| refine hold_out ?_)
local macro_rules | `(tactic| walk_at "subscriptTail Name Name ref int") => `(tactic| refine hold_out ?_)
theorem headC {w : World} {A : Around} {s : Shared} {Q : Flow → Shared → Prop} {p : Program} {loose : List PySem.Str} {mean : ExcName → Option Value} {mg mb : PySem.Str → Option Value} {h₀ : Heap} {L fa : Addr} {m : PySem.Str → Option Value} {news : List (Addr × Obj)}
    (X : (Mine.hd.heap_39 w.params).In h₀) (T : Top p loose mean mg mb h₀) (hroom : A.depth + 5 < recursionLimit) (hh : A.handled = none)
    {sd lb D : Addr} {od ok ol os : Obj} {lits : Array Value} {ln u : Nat} {tu tn : Tok} {nm : PySem.Str} {kvs : List (PySem.Str × Value)}
    (F : Fr h₀ L s.heap m) (N : News h₀ L s.heap ((sd, od) :: news)) (hoff : ∀ p ∈ news, p.1 ≠ sd)
    (hok : (L + 1, ok) ∈ news) (hokd : ok.data = .cell (some (.int (u : Int) tu))) (hol : (L + 1 + 1, ol) ∈ news) (hold : ol.data = .cell (some (.ref lb))) (hlb : (lb, W.listOf lits ln) ∈ news) (hli : lits[u]? = some (.str nm tn)) (hu5 : u < 5)
    (hos : (L + 1 + 1 + 1 + 1 + 1, os) ∈ news) (hosd : os.data = .cell (some (.ref sd))) (hm : m (Str.ofString "rows") = some (.ref D)) (hkv : od.IsDictOf (strKind prog w) kvs) (hkl : kvs.length ≤ 100)
    (hQ : ∀ h' tk od', Fr h₀ L h' m → News h₀ L h' ((sd, od') :: news) → od'.IsDictOf (strKind prog w) (stored kvs nm (.ref D)) → Q .next { s with heap := h', toks := tk }) :
    wpAny (model prog w) A (exec (inAt 8 5) (lawEnv L fa)) Q NoE s := by
  obtain ⟨hd, d, fr, gu, un⟩ := A
  cases hh
  have hm' := hm
  rw [map1 hm] at F
  have N' : News h₀ L s.heap ((sd, od) :: (L + 1, ok) :: (L + 1 + 1, ol) :: (lb, W.listOf lits ln) :: (L + 1 + 1 + 1 + 1 + 1, os) :: news) := fun p hp => by
    rcases List.mem_cons.mp hp with rfl | hp
    · exact N _ (.head _)
    rcases List.mem_cons.mp hp with rfl | hp
    · exact N _ (.tail _ hok)
    rcases List.mem_cons.mp hp with rfl | hp
    · exact N _ (.tail _ hol)
    rcases List.mem_cons.mp hp with rfl | hp
    · exact N _ (.tail _ hlb)
    rcases List.mem_cons.mp hp with rfl | hp
    · exact N _ (.tail _ hos)
    · exact N _ (.tail _ hp)
  clear N
  conv in (inAt 8 5) => whnf
  k_steps
  refine hold_in (item_nat (i := u) (listAt N' (.tail _ (.tail _ (.tail _ (.head _))))) rfl (by omega) hli ?_)
  k_steps
  refine hold_in (kda_set (knd := strKind prog w) F N' (UpdF.head ?_) hkv (strKind_is _ _ _ _) (by rw [sizeLine_eq]; omega) ?_)
  · intro p hp
    rcases List.mem_cons.mp hp with rfl | hp
    · exact hoff _ hok
    rcases List.mem_cons.mp hp with rfl | hp
    · exact hoff _ hol
    rcases List.mem_cons.mp hp with rfl | hp
    · exact hoff _ hlb
    rcases List.mem_cons.mp hp with rfl | hp
    · exact hoff _ hos
    · exact hoff _ hp
  · intro h₂ od' F₂ N₂ hd₂
    rw [← map1 hm'] at F₂
    k_steps
    refine hQ _ _ od' F₂ (fun p hp => ?_) hd₂
    rcases List.mem_cons.mp hp with rfl | hp
    · exact N₂ _ (.head _)
    · exact N₂ _ (.tail _ (.tail _ (.tail _ (.tail _ (.tail _ hp)))))
end
end Mine
end

-- L2
section
open PySem PySem.W PyProof.Rows in
theorem Mine.resetL2 : True ∧ True := by
  w_top off
  walk1
  all_goals exact True.intro
end
section
open PySem PySem.W PyProof.Rows PySem.Calls
namespace Mine
theorem execs_app (env : Env) (l2 : List Stmt) : ∀ l1 : List Stmt, execs (l1 ++ l2) env = (execs l1 env >>= fun f => match f with | .next => execs l2 env | f => pure f)
  | [] => by
    show execs l2 env = (pure Flow.next >>= _)
    rw [pure_bind]
  | a :: r => by
    rw [List.cons_append, execs_cons, execs_cons, bind_assoc]
    congr 1
    funext f
    cases f with
    | next => exact execs_app env l2 r
    | brk => exact (pure_bind _ _).symm
    | cont => exact (pure_bind _ _).symm
    | ret v => exact (pure_bind _ _).symm
theorem execs_two {M : Model} {A : Around} {env : Env} {Q : Flow → Shared → Prop} {l2 : List Stmt} {s : Shared} (l1 : List Stmt)
    (h : wpAny M A (execs l1 env) (fun f s' => match f with | .next => wpAny M A (execs l2 env) Q NoE s' | f => Q f s') NoE s) : wpAny M A (execs (l1 ++ l2) env) Q NoE s := by
  rw [execs_app]
  refine wpAny_bind (wpAny_mono h (fun f s' hf => ?_) fun _ _ e => e)
  cases f with
  | next => exact hf
  | brk => exact wpAny_pure hf
  | cont => exact wpAny_pure hf
  | ret v => exact wpAny_pure hf
def upOf (x : Nat → Nat) (j : Nat) : Nat := x j % 3 + 2
def loOf (x : Nat → Nat) (j : Nat) : Nat := x j / 3 % 3 + 2
structure Inv2 (x : Nat → Nat) (L : Addr) (st : Nat) (sd : Addr) (i : Nat) (m : PySem.Str → Option Value) (own : List (Addr × Obj)) (kvs : List (PySem.Str × Value)) : Prop where
  start : ∃ t, m (Str.ofString "start") = some (.int (st : Int) t)
  nums : ∃ nu its nn, m (Str.ofString "numbers") = some (.ref nu) ∧ (nu, W.listOf its nn) ∈ own ∧ ∀ j, j < 5 → ∃ t, its[j]? = some (.int (x j : Nat) t)
  labs : ∃ ol lb lits ln, (L + 1 + 1, ol) ∈ own ∧ ol.data = .cell (some (.ref lb)) ∧ (lb, W.listOf lits ln) ∈ own ∧ ∀ j, j < 5 → ∃ t, lits[j]? = some (.str (flagName (st + j)) t)
  sent : ∃ os, (L + 1 + 1 + 1 + 1 + 1, os) ∈ own ∧ os.data = .cell (some (.ref sd))
  choices : ∃ ch its n, m (Str.ofString "choices") = some (.ref ch) ∧ (ch, W.listOf its n) ∈ own ∧ its.size = 2 ^ i ∧ ∀ k, k < 2 ^ i → ∃ r vs n', its[k]? = some (.ref r) ∧ (r, W.listOf (List.toArray vs) n') ∈ own ∧ StrsAre vs ((letters k).map fun j => flagName (st + j))
  firsts : ∃ fi its n, m (Str.ofString "firsts") = some (.ref fi) ∧ (fi, W.listOf its n) ∈ own ∧ its.size = 2 ^ i ∧ ∀ k, k < 2 ^ i → ∃ t, its[k]? = some (.int (sumOf (upOf x) (letters k) : Nat) t)
  seconds : ∃ se its n, m (Str.ofString "seconds") = some (.ref se) ∧ (se, W.listOf its n) ∈ own ∧ its.size = 2 ^ i ∧ ∀ k, k < 2 ^ i → ∃ t, its[k]? = some (.int (sumOf (loOf x) (letters k) : Nat) t)
  rows : ∀ j, j < i → ∃ r t1 t2 t3 nn, valueAt kvs (flagName (st + j)) = some (.ref r) ∧ (r, W.listOf #[.str (dots (upOf x j)) t1, .str (dots (loOf x j)) t2, .str (Str.ofString "") t3] nn) ∈ own
  few : kvs.length ≤ i
theorem letters_step : (List.range 5).all (fun i => (List.range (2 ^ i)).all fun k => letters (2 ^ i + k) == letters k ++ [i]) = true := by decide +kernel
theorem letters_next {i k : Nat} (hi : i < 5) (hk : k < 2 ^ i) : letters (2 ^ i + k) = letters k ++ [i] :=
  eq_of_beq (List.all_eq_true.mp (List.all_eq_true.mp letters_step i (List.mem_range.mpr hi)) k (List.mem_range.mpr hk))
theorem sum_snoc (f : Nat → Nat) (l : List Nat) (i : Nat) : sumOf f (l ++ [i]) = sumOf f l + f i := by
  simp [sumOf]
theorem flag_inj : (List.range 10).all (fun a => (List.range 10).all fun b => a == b || (flagName a).cps.toList != (flagName b).cps.toList) = true := by decide +kernel
theorem flag_ne {a b : Nat} (ha : a < 10) (hb : b < 10) (h : a ≠ b) : flagName a ≠ flagName b := by
  have := List.all_eq_true.mp (List.all_eq_true.mp flag_inj a (List.mem_range.mpr ha)) b (List.mem_range.mpr hb)
  intro e
  rw [e] at this
  simp [h] at this
theorem mem_perm (own B : List (Addr × Obj)) (a b c d p : Addr × Obj) (hp : p ∈ c :: d :: (own ++ (a :: b :: B))) : p ∈ a :: b :: c :: d :: (own ++ B) := by
  grind
theorem pow16 {i : Nat} (hi : i < 5) : 2 ^ i ≤ 16 := Nat.le_trans (Nat.pow_le_pow_right (by decide) (show i ≤ 4 by omega)) (by decide)
theorem turn2 {w : World} {A : Around} {s : Shared} {Q : Flow → Shared → Prop} {p : Program} {loose : List PySem.Str} {mean : ExcName → Option Value} {mg mb : PySem.Str → Option Value} {h₀ : Heap} {L fa : Addr} {m : PySem.Str → Option Value} {B own : List (Addr × Obj)}
    (X : (Mine.hd.heap_39 w.params).In h₀) (T : Top p loose mean mg mb h₀) (hroom : A.depth + 5 < recursionLimit) (hu : A.units + 100 < cLine) (hh : A.handled = none)
    {x : Nat → Nat} {st i : Nat} {sd : Addr} {ok ou ol od : Obj} {kv1 kv2 : Option Value} {ti : Tok} {kvs : List (PySem.Str × Value)}
    (F : Fr h₀ L s.heap m) (N : News h₀ L s.heap ((L + 1, ok) :: (L + 1 + 1 + 1, ou) :: (L + 1 + 1 + 1 + 1, ol) :: (sd, od) :: B)) (hokd : ok.data = .cell (some (.int (i : Int) ti))) (houd : ou.data = .cell kv1) (hold : ol.data = .cell kv2)
    (hkv : od.IsDictOf (strKind prog w) kvs) (hoff : OwnOff B [L + 1, L + 1 + 1 + 1, L + 1 + 1 + 1 + 1]) (hsB : ∀ p ∈ B, p.1 ≠ sd) (hs1 : sd ≠ L + 1) (hs2 : sd ≠ L + 1 + 1 + 1) (hs3 : sd ≠ L + 1 + 1 + 1 + 1)
    (hi : i < 5) (hst : st < 6) (hx : ∀ j, x j < 27) (hsub : ∀ p ∈ own, p ∈ B) (I : Inv2 x L st sd i m own kvs)
    (hQ : ∀ h' tk m' ou' ol' od' kvs' Ex, Fr h₀ L h' m' → News h₀ L h' ((L + 1, ok) :: (L + 1 + 1 + 1, ou') :: (L + 1 + 1 + 1 + 1, ol') :: (sd, od') :: (Ex ++ B)) → (∃ v, ou'.data = .cell v) → (∃ v, ol'.data = .cell v) → od'.IsDictOf (strKind prog w) kvs' →
      (∀ p ∈ Ex, L + 1 < p.1 ∧ L + 1 + 1 + 1 < p.1 ∧ L + 1 + 1 + 1 + 1 < p.1 ∧ sd < p.1 ∧ ∀ q ∈ B, q.1 < p.1) → Inv2 x L st sd (i + 1) m' (Ex ++ own) kvs' → Q .next { s with heap := h', toks := tk }) :
    wpAny (model prog w) A (execs [inAt 8 0, inAt 8 1, inAt 8 2, inAt 8 3, inAt 8 4, inAt 8 5, inAt 8 6, inAt 8 7, inAt 8 8] (lawEnv L fa)) Q NoE s := by
  obtain ⟨nu, nits, nn, n1, n2, n3⟩ := I.nums
  obtain ⟨tx, hxi⟩ := n3 i hi
  have e9 : x i = 9 * (x i / 9) + 3 * (x i / 3 % 3) + x i % 3 := by omega
  have hxi27 := hx i
  refine execs_two [inAt 8 0, inAt 8 1, inAt 8 2] (l2 := [inAt 8 3, inAt 8 4, inAt 8 5, inAt 8 6, inAt 8 7, inAt 8 8]) ?_
  refine headA (news := (sd, od) :: B) X T hroom hh (its := nits) (i := i) (u := x i % 3) (l := x i / 3 % 3) (e := x i / 9) (tx := tx) F N hokd houd hold n1 (.tail _ (hsub _ n2)) hi (by rw [← e9]; exact hxi) (by omega) (by omega) (by omega) ?_ ?_
  · intro q hq b hb
    rcases List.mem_cons.mp hq with rfl | hq
    · simp only [List.mem_cons, List.not_mem_nil, or_false] at hb
      rcases hb with rfl | rfl | rfl
      · exact hs1
      · exact hs2
      · exact hs3
    · exact hoff q hq b hb
  intro h₁ tk₁ ou₁ ol₁ te t1 t2 F₁ N₁ ho₁ hl₁
  clear F N
  refine execs_two [inAt 8 3, inAt 8 4] (l2 := [inAt 8 5, inAt 8 6, inAt 8 7, inAt 8 8]) ?_
  refine headB (news := (L + 1, ok) :: (sd, od) :: B) X T hroom hu hh (u := x i % 3) (l := x i / 3 % 3) (e := x i / 9) F₁ (fun p hp => N₁ p (by grind)) ho₁ hl₁ rfl (by omega) (by omega) (by omega) ?_
  intro h₂ tk₂ D r1 r2 r3 F₂ N₂ hlt₂
  clear F₁ N₁
  obtain ⟨olb, lb, lits, ln, b1, b2, b3, b4⟩ := I.labs
  obtain ⟨tn, hli⟩ := b4 i hi
  obtain ⟨os, c1, c2⟩ := I.sent
  refine wpAny_execs_cons ?_
  refine headC (news := (D, W.listOf #[.str (dots (x i % 3 + 2)) r1, .str (dots (x i / 3 % 3 + 2)) r2, .str (Str.ofString "") r3] 0) :: (L + 1 + 1 + 1, ou₁) :: (L + 1 + 1 + 1 + 1, ol₁) :: (L + 1, ok) :: B) X T hroom hh (sd := sd) (lb := lb) (D := D) (u := i) F₂ (fun p hp => N₂ p (by grind)) ?_
    (by grind) hokd (.tail _ (.tail _ (.tail _ (.tail _ (hsub _ b1))))) b2 (.tail _ (.tail _ (.tail _ (.tail _ (hsub _ b3))))) hli hi (.tail _ (.tail _ (.tail _ (.tail _ (hsub _ c1))))) c2 rfl hkv (by have := I.few; omega) ?_
  · intro q hq
    rcases List.mem_cons.mp hq with rfl | hq
    · exact Ne.symm (Nat.ne_of_lt (hlt₂ (sd, od) (by grind)))
    rcases List.mem_cons.mp hq with rfl | hq
    · exact Ne.symm hs2
    rcases List.mem_cons.mp hq with rfl | hq
    · exact Ne.symm hs3
    rcases List.mem_cons.mp hq with rfl | hq
    · exact Ne.symm hs1
    · exact hsB q hq
  intro h₃ tk₃ od₃ F₃ N₃ hd₃
  clear F₂ N₂
  refine wpAny_execs_cons ?_
  obtain ⟨ch, cits, cn, f1, f2, f3, f4⟩ := I.choices
  have h16 := pow16 hi
  have hNB : ∀ q ∈ B, q ∈ (sd, od₃) :: (D, W.listOf #[.str (dots (x i % 3 + 2)) r1, .str (dots (x i / 3 % 3 + 2)) r2, .str (Str.ofString "") r3] 0) :: (L + 1 + 1 + 1, ou₁) :: (L + 1 + 1 + 1 + 1, ol₁) :: (L + 1, ok) :: B := fun q hq => by grind
  refine choices6 (news := (sd, od₃) :: (D, W.listOf #[.str (dots (x i % 3 + 2)) r1, .str (dots (x i / 3 % 3 + 2)) r2, .str (Str.ofString "") r3] 0) :: (L + 1 + 1 + 1, ou₁) :: (L + 1 + 1 + 1 + 1, ol₁) :: (L + 1, ok) :: B) X T hroom hh (ch := ch) (lb := lb) (its := cits) (lits := lits) (u := i) F₃ N₃ f1 (hNB _ (hsub _ f2)) (by grind) hokd (hNB _ (hsub _ b1)) b2 (hNB _ (hsub _ b3)) hli hi (fun k => (letters k).map fun j => flagName (st + j))
    (fun k hk => by obtain ⟨r, vs, n', g1, g2, g3⟩ := f4 k (f3 ▸ hk); exact ⟨r, vs, n', g1, hNB _ (hsub _ g2), g3⟩) (fun k _ => by rw [List.length_map]; exact letters_len k) (f3 ▸ h16) ?_
  intro h₄ tk₄ D₄ its₄ ex₄ F₄ N₄ hex₄ hlt₄ hz₄ hl₄ hr₄
  clear F₃ N₃
  generalize hG : (sd, od₃) :: (D, W.listOf #[.str (dots (x i % 3 + 2)) r1, .str (dots (x i / 3 % 3 + 2)) r2, .str (Str.ofString "") r3] 0) :: (L + 1 + 1 + 1, ou₁) :: (L + 1 + 1 + 1 + 1, ol₁) :: (L + 1, ok) :: B = G at *
  have hG1 : (sd, od₃) ∈ G := by rw [← hG]; grind
  have hG2 : (D, W.listOf #[.str (dots (x i % 3 + 2)) r1, .str (dots (x i / 3 % 3 + 2)) r2, .str (Str.ofString "") r3] 0) ∈ G := by rw [← hG]; grind
  have hG3 : (L + 1 + 1 + 1, ou₁) ∈ G := by rw [← hG]; grind
  have hG4 : (L + 1 + 1 + 1 + 1, ol₁) ∈ G := by rw [← hG]; grind
  have hG5 : (L + 1, ok) ∈ G := by rw [← hG]; grind
  clear hG
  obtain ⟨fi, fits, fn, p1, p2, p3, p4⟩ := I.firsts
  obtain ⟨se, sits, sn, q1, q2, q3, q4⟩ := I.seconds
  refine wpAny_execs_cons ?_
  refine firsts7 (news := (D₄, W.listOf its₄ 0) :: (ex₄ ++ G)) X T hroom hh (fi := fi) (its := fits) (u := upOf x i) F₄ N₄ p1 (.tail _ (List.mem_append_right _ (hNB _ (hsub _ p2)))) (.tail _ (List.mem_append_right _ hG3)) ho₁ (fun k => sumOf (upOf x) (letters k)) (fun k hk => p4 k (p3 ▸ hk)) (p3 ▸ h16) ?_
  intro h₅ tk₅ D₅ its₅ F₅ N₅ hlt₅ hz₅ hl₅ hr₅
  clear F₄ N₄
  refine wpAny_execs_cons ?_
  refine seconds8 (news := (D₅, W.listOf its₅ 0) :: (D₄, W.listOf its₄ 0) :: (ex₄ ++ G)) X T hroom hh (fi := se) (its := sits) (u := loOf x i) F₅ N₅ q1 (.tail _ (.tail _ (List.mem_append_right _ (hNB _ (hsub _ q2))))) (.tail _ (.tail _ (List.mem_append_right _ hG4))) hl₁ (fun k => sumOf (loOf x) (letters k)) (fun k hk => q4 k (q3 ▸ hk)) (q3 ▸ h16) ?_
  intro h₆ tk₆ D₆ its₆ F₆ N₆ hlt₆ hz₆ hl₆ hr₆
  clear F₅ N₅
  refine wpAny_execs_nil ?_
  refine hQ _ _ _ ou₁ ol₁ od₃ (stored kvs (flagName (st + i)) (.ref D)) ((D₆, W.listOf its₆ 0) :: (D₅, W.listOf its₅ 0) :: (D₄, W.listOf its₄ 0) :: (D, W.listOf #[.str (dots (x i % 3 + 2)) r1, .str (dots (x i / 3 % 3 + 2)) r2, .str (Str.ofString "") r3] 0) :: ex₄) F₆ (fun p hp => N₆ p (by grind)) ⟨_, ho₁⟩ ⟨_, hl₁⟩ hd₃ ?_ ?_
  · have fr : ∀ d : Addr, (∀ g ∈ G, g.1 < d) → L + 1 < d ∧ L + 1 + 1 + 1 < d ∧ L + 1 + 1 + 1 + 1 < d ∧ sd < d ∧ ∀ q ∈ B, q.1 < d := fun d h => ⟨h _ hG5, h _ hG3, h _ hG4, h _ hG1, fun q hq => h _ (hNB q hq)⟩
    intro p hp
    rcases List.mem_cons.mp hp with rfl | hp
    · exact fr _ fun g hg => hlt₆ g (.tail _ (.tail _ (List.mem_append_right _ hg)))
    rcases List.mem_cons.mp hp with rfl | hp
    · exact fr _ fun g hg => hlt₅ g (.tail _ (List.mem_append_right _ hg))
    rcases List.mem_cons.mp hp with rfl | hp
    · exact fr _ fun g hg => hlt₄ g (List.mem_append_right _ hg)
    rcases List.mem_cons.mp hp with rfl | hp
    · exact ⟨hlt₂ (L + 1, ok) (.tail _ (.tail _ (.head _))), hlt₂ (L + 1 + 1 + 1, ou₁) (.head _), hlt₂ (L + 1 + 1 + 1 + 1, ol₁) (.tail _ (.head _)), hlt₂ (sd, od) (.tail _ (.tail _ (.tail _ (.head _)))), fun q hq => hlt₂ q (.tail _ (.tail _ (.tail _ (.tail _ hq))))⟩
    · exact fr _ fun g hg => hex₄ p hp g hg
  · refine ⟨I.start, ⟨nu, nits, nn, n1, by grind, n3⟩, ⟨olb, lb, lits, ln, by grind, b2, by grind, b4⟩, ⟨os, by grind, c2⟩, ⟨D₄, its₄, 0, rfl, by grind, by rw [hz₄, f3, Nat.pow_succ, Nat.mul_comm], ?_⟩, ⟨D₅, its₅, 0, rfl, by grind, by rw [hz₅, p3, Nat.pow_succ, Nat.mul_comm], ?_⟩, ⟨D₆, its₆, 0, rfl, by grind, by rw [hz₆, q3, Nat.pow_succ, Nat.mul_comm], ?_⟩, ?_, Nat.le_trans (stored_length_le _ _ _) (Nat.succ_le_succ I.few)⟩
    · intro k hk
      by_cases q : k < 2 ^ i
      · obtain ⟨r, vs, n', g1, g2, g3⟩ := f4 k q
        exact ⟨r, vs, n', (hl₄ k (f3.symm ▸ q)).trans g1, List.mem_append_right _ g2, g3⟩
      · obtain ⟨k', rfl⟩ : ∃ k', k = 2 ^ i + k' := ⟨k - 2 ^ i, by omega⟩
        have hk' : k' < 2 ^ i := by rw [Nat.pow_succ] at hk; omega
        obtain ⟨r, vs, n', g1, g2, g3⟩ := hr₄ k' (f3.symm ▸ hk')
        rw [f3] at g1
        refine ⟨r, vs, n', g1, List.mem_append_left _ (.tail _ (.tail _ (.tail _ (.tail _ g2)))), ?_⟩
        rw [letters_next hi hk', List.map_append]
        exact g3
    · intro k hk
      by_cases q : k < 2 ^ i
      · obtain ⟨t, g⟩ := hl₅ k (p3.symm ▸ q)
        exact ⟨t, g⟩
      · obtain ⟨k', rfl⟩ : ∃ k', k = 2 ^ i + k' := ⟨k - 2 ^ i, by omega⟩
        have hk' : k' < 2 ^ i := by rw [Nat.pow_succ] at hk; omega
        obtain ⟨t, g⟩ := hr₅ k' (p3.symm ▸ hk')
        rw [p3] at g
        rw [letters_next hi hk', sum_snoc]
        exact ⟨t, g⟩
    · intro k hk
      by_cases q : k < 2 ^ i
      · obtain ⟨t, g⟩ := hl₆ k (q3.symm ▸ q)
        exact ⟨t, g⟩
      · obtain ⟨k', rfl⟩ : ∃ k', k = 2 ^ i + k' := ⟨k - 2 ^ i, by omega⟩
        have hk' : k' < 2 ^ i := by rw [Nat.pow_succ] at hk; omega
        obtain ⟨t, g⟩ := hr₆ k' (q3.symm ▸ hk')
        rw [q3] at g
        rw [letters_next hi hk', sum_snoc]
        exact ⟨t, g⟩
    · intro j hj
      rw [valueAt_put]
      by_cases q : j = i
      · subst q
        rw [if_pos rfl]
        exact ⟨D, r1, r2, r3, 0, rfl, List.mem_append_left _ (.tail _ (.tail _ (.tail _ (.head _))))⟩
      · rw [if_neg (flag_ne (by omega) (by omega) (by omega))]
        obtain ⟨r, u1, u2, u3, nn', g1, g2⟩ := I.rows j (by omega)
        exact ⟨r, u1, u2, u3, nn', g1, List.mem_append_right _ g2⟩
end Mine
end

-- L2l
section
open PySem PySem.W PyProof.Rows in
theorem Mine.resetL2l : True ∧ True := by
  w_top off
  walk1
  all_goals exact True.intro
end
section
open PySem PySem.W PyProof.Rows PySem.Calls
namespace Mine
def J2 (prog : Program) (w : World) (x : Nat → Nat) (L : Addr) (st : Nat) (sd : Addr) (ot : Obj) (i : Nat) (m : PySem.Str → Option Value) (news : List (Addr × Obj)) : Prop :=
  ∃ ok ou ol od kvs own kv kv1 kv2, news = (L + 1, ok) :: (L + 1 + 1 + 1, ou) :: (L + 1 + 1 + 1 + 1, ol) :: (sd, od) :: (102, ot) :: own ∧ ok.data = .cell kv ∧ ou.data = .cell kv1 ∧ ol.data = .cell kv2 ∧ od.IsDictOf (strKind prog w) kvs ∧
    OwnOff own [L + 1, L + 1 + 1 + 1, L + 1 + 1 + 1 + 1, sd, 102] ∧ Inv2 x L st sd i m own kvs
section
local macro_rules | `(tactic| walk_at "execs cons") => `(tactic| refine hold_out ?_)
theorem loop2 {w : World} {A : Around} {s : Shared} {Q : Flow → Shared → Prop} {p : Program} {loose : List PySem.Str} {mean : ExcName → Option Value} {mg mb : PySem.Str → Option Value} {h₀ : Heap} {L fa : Addr} {m : PySem.Str → Option Value} {news : List (Addr × Obj)}
    (X : (Mine.hd.heap_39 w.params).In h₀) (T : Top p loose mean mg mb h₀) (hroom : A.depth + 5 < recursionLimit) (hu : A.units + 100 < cLine) (hh : A.handled = none)
    {x : Nat → Nat} {st : Nat} {sd : Addr} {ot : Obj} (F : Fr h₀ L s.heap m) (N : News h₀ L s.heap news) (hL : @LT.lt Nat _ 102 L) (hsd : @LT.lt Nat _ (L + 1 + 1 + 1 + 1 + 1) sd) (hst : st < 6) (hx : ∀ j, x j < 27) (hJ : J2 prog w x L st sd ot 0 m news)
    (hQ : ∀ h' tk m' news', Fr h₀ L h' m' → News h₀ L h' news' → J2 prog w x L st sd ot 5 m' news' → Q .next { s with heap := h', toks := tk }) :
    wpAny (model prog w) A (exec (lawAt 8) (lawEnv L fa)) Q NoE s := by
  obtain ⟨hd, d, fr, gu, un⟩ := A
  cases hh
  refine wpAny_For ?_ (hs := fun _ => rfl)
  k_steps
  rename IsRange _ _ _ _ _ _ _ _ => hr
  rename Fr _ _ _ _ => F₁
  rename News _ _ _ _ => N₁
  refine iterRange (n := 5) rfl hr rfl rfl F₁ N₁ (J2 prog w x L st sd ot) hJ ?_ ?_
  · clear hr F₁ N₁ hJ hQ
    rintro i ti m₁ news₁ h tk it hi ⟨ok, ou, ol, od, kvs, own, kv, kv1, kv2, rfl, hk, hk1, hk2, hkv, hoff, I⟩ hoff' F N
    simp only [List.cons_append] at N
    have ho : OwnOff (own ++ it) [L + 1, L + 1 + 1 + 1, L + 1 + 1 + 1 + 1, sd, 102] := off_app hoff fun p hp b hb => hoff' p hp b (by
      simp only [List.map_cons, List.mem_cons, List.not_mem_nil, or_false] at hb ⊢
      grind)
    k_steps
    rename Fr _ _ _ _ => F
    rename News _ _ _ _ => N
    rename Obj => ok'
    rename _ = Data.cell _ => hok'
    rw [Int.zero_add] at hok'
    refine hold_in (turn2 (B := (102, ot) :: (own ++ it)) (own := own) X T hroom hu rfl F N hok' hk1 hk2 hkv ?_ ?_ (neN (by omega)) (neN (by omega)) (neN (by omega)) hi hst hx (fun p hp => by grind) I ?_)
    · intro p hp b hb
      rcases List.mem_cons.mp hp with rfl | hp
      · simp only [List.mem_cons, List.not_mem_nil, or_false] at hb
        have : ∀ a : Nat, a = L + 1 ∨ a = L + 1 + 1 + 1 ∨ a = L + 1 + 1 + 1 + 1 → (102 : Nat) ≠ a := fun a ha => by omega
        exact this b hb
      · exact ho p hp b (by grind)
    · intro p hp
      rcases List.mem_cons.mp hp with rfl | hp
      · exact neN (a := 102) (b := sd) (by omega)
      · exact ho p hp sd (by grind)
    intro h₂ tk₂ m₂ ou₂ ol₂ od₂ kvs₂ Ex F₂ N₂ ho₂ hl₂ hd₂ hEx I₂
    obtain ⟨v1, ho₂⟩ := ho₂
    obtain ⟨v2, hl₂⟩ := hl₂
    refine ⟨h₂, tk₂, m₂, (L + 1, ok') :: (L + 1 + 1 + 1, ou₂) :: (L + 1 + 1 + 1 + 1, ol₂) :: (sd, od₂) :: (102, ot) :: (Ex ++ own), rfl, F₂, fun p hp => N₂ p (by grind), ?_, ⟨ok', ou₂, ol₂, od₂, kvs₂, Ex ++ own, _, v1, v2, rfl, hok', ho₂, hl₂, hd₂, ?_, I₂⟩⟩
    · intro p hp b hb
      obtain ⟨e, he, rfl⟩ := List.mem_map.mp hb
      by_cases q : e ∈ Ex
      · exact Nat.ne_of_lt ((hEx e q).2.2.2.2 p (by grind))
      · refine hoff' p hp _ ?_
        simp only [List.map_cons, List.mem_cons]
        simp only [List.mem_cons, List.mem_append] at he
        rcases he with rfl | rfl | rfl | rfl | rfl | he | he
        · exact .inl rfl
        · exact .inr (.inl rfl)
        · exact .inr (.inr (.inl rfl))
        · exact .inr (.inr (.inr (.inl rfl)))
        · exact .inr (.inr (.inr (.inr (.inl rfl))))
        · exact absurd he q
        · exact .inr (.inr (.inr (.inr (.inr (List.mem_map_of_mem he)))))
    · intro p hp b hb
      rcases List.mem_append.mp hp with hp | hp
      · obtain ⟨e1, e2, e3, e4, e5⟩ := hEx p hp
        have e6 := e5 (102, ot) (.head _)
        simp only [List.mem_cons, List.not_mem_nil, or_false] at hb
        rcases hb with rfl | rfl | rfl | rfl | rfl
        · exact Nat.ne_of_gt e1
        · exact Nat.ne_of_gt e2
        · exact Nat.ne_of_gt e3
        · exact Nat.ne_of_gt e4
        · exact Nat.ne_of_gt e6
      · exact hoff p hp b hb
  · intro h' tk m' news' F' N' hJ'
    k_steps
    exact hQ _ _ _ _ F' N' hJ'
end
end Mine
end

-- Mid
section
open PySem PySem.W PyProof.Rows in
theorem Mine.resetMid : True ∧ True := by
  w_top off
  walk1
  all_goals exact True.intro
end
section
open PySem PySem.W PyProof.Rows PySem.Calls
namespace Mine
section
local macro_rules | `(tactic| walk_at "binaryOp Mod int int") => `(tactic| refine hold_out ?_)
theorem midA {w : World} {A : Around} {s : Shared} {Q : Flow → Shared → Prop} {p : Program} {loose : List PySem.Str} {mean : ExcName → Option Value} {mg mb : PySem.Str → Option Value} {h₀ : Heap} {L fa : Addr} {m : PySem.Str → Option Value} {news : List (Addr × Obj)}
    (X : (Mine.hd.heap_39 w.params).In h₀) (T : Top p loose mean mg mb h₀) (hroom : A.depth + 5 < recursionLimit) (hh : A.handled = none)
    {nu : Addr} {its : Array Value} {nn : Nat} (F : Fr h₀ L s.heap m) (N : News h₀ L s.heap news) (hm : m (Str.ofString "numbers") = some (.ref nu)) (hnu : (nu, W.listOf its nn) ∈ news) (h5 : Fives its)
    (hQ : ∀ h' tk st t, st < 6 → Fr h₀ L h' (fun z => if z = Str.ofString "start" then some (.int ((st : Nat) : Int) t) else m z) → News h₀ L h' news → Q .next { s with heap := h', toks := tk }) :
    wpAny (model prog w) A (exec (lawAt 2) (lawEnv L fa)) Q NoE s := by
  obtain ⟨hd, d, fr, gu, un⟩ := A
  cases hh
  obtain ⟨a, b, c, d', e, t1, t2, t3, t4, t5, rfl, h1, h2, h3, h4, h5⟩ := h5
  rw [map1 hm] at F
  have N' : News h₀ L s.heap ((nu, W.listOf #[.int (a : Int) t1, .int (b : Int) t2, .int (c : Int) t3, .int (d' : Int) t4, .int (e : Int) t5] nn) :: news) := fun p hp => by
    rcases List.mem_cons.mp hp with rfl | hp
    · exact N _ hnu
    · exact N _ hp
  clear N
  conv in (lawAt 2) => whnf
  k_steps
  refine hold_in (mod_nat (b := 6) (n := a + b + c + d' + e + 2) ((a + b + c + d' + e + 2) % 6) (by push_cast; omega) (by decide) rfl fun _ _ => ?_)
  k_steps
  rename Fr _ _ _ _ => F
  rename News _ _ _ _ => N
  rw [map1_in hm] at F
  exact hQ _ _ _ _ (Nat.mod_lt _ (by decide)) F fun p hp => N p (.tail _ hp)
end
def Words (its : Array Value) : Prop := ∃ t0 t1 t2 t3 t4 t5 t6 t7 t8 t9, its = #[.str (flagName 0) t0, .str (flagName 1) t1, .str (flagName 2) t2, .str (flagName 3) t3, .str (flagName 4) t4, .str (flagName 5) t5, .str (flagName 6) t6, .str (flagName 7) t7, .str (flagName 8) t8, .str (flagName 9) t9]
theorem words1 {w : World} {A : Around} {s : Shared} {R : Result → Shared → Prop} {p : Program} {loose : List PySem.Str} {mean : ExcName → Option Value} {mg mb : PySem.Str → Option Value}
    (X : (Mine.hd.heap_39 w.params).In s.heap) (T : Top p loose mean mg mb s.heap) (hroom : A.depth < recursionLimit) (hh : A.handled = none)
    (hR : ∀ h' tk D its nn, (∀ b o, s.heap.get? b = some o → h'.get? b = some o) → s.heap.get? D = none → h'.get? D = some (W.listOf its nn) → Words its → R (.ok (.ret (.ref D))) { s with heap := h', toks := tk }) :
    codeAny (model prog w) A (.call (.ref 100) ⟨[], []⟩) R s := by
  obtain ⟨hd, d, fr, gu, un⟩ := A
  cases hh
  refine enterF [] X T hroom rfl rfl (BindsTo.of_eq rfl) (locs rfl) ?_ rfl rfl rfl (by decide)
  intro h₁ tk F' N'
  k_steps
  rename Fr _ _ _ _ => F
  rename News _ _ _ _ => N
  exact hR _ _ _ _ _ F.keep (N _ (.head _)).2.2 (N _ (.head _)).1 ⟨_, _, _, _, _, _, _, _, _, _, rfl⟩
theorem news_add {h₀ h h' : Heap} {L D : Addr} {o : Obj} {m : PySem.Str → Option Value} {news : List (Addr × Obj)} (F : Fr h₀ L h m) (N : News h₀ L h news) (k : ∀ b o, h.get? b = some o → h'.get? b = some o) (hn : h.get? D = none) (hg : h'.get? D = some o) : News h₀ L h' ((D, o) :: news) := by
  intro p hp
  rcases List.mem_cons.mp hp with rfl | hp
  · refine ⟨hg, ?_, ?_⟩
    · intro e
      obtain ⟨o, _, _, ho, _⟩ := F.ns
      have e' : D = L := e
      rw [e', show _ = some o from ho] at hn
      cases hn
    · cases q : h₀.get? D with
      | none => rfl
      | some o => rw [show _ = some o from F.keep _ _ q] at hn; cases hn
  · exact N.grown k p hp
theorem news_swap {h₀ h : Heap} {L : Addr} {a b d : Addr × Obj} {news : List (Addr × Obj)} (N : News h₀ L h (a :: d :: b :: news)) : News h₀ L h (b :: a :: news) := fun p hp => N p (by
  rcases List.mem_cons.mp hp with rfl | hp
  · exact .tail _ (.tail _ (.head _))
  · rcases List.mem_cons.mp hp with rfl | hp
    · exact .head _
    · exact .tail _ (.tail _ (.tail _ hp)))
theorem allLt_mem {d : Addr} : ∀ {l : List (Addr × Obj)}, AllLt d l → ∀ p ∈ l, p.1 < d
  | [], _, _, h => nomatch h
  | _ :: _, x, p, h => by
    rcases List.mem_cons.mp h with rfl | h
    · exact x.1
    · exact allLt_mem x.2 p h
section
local macro_rules | `(tactic| walk_at "call ref") => `(tactic| refine hold_out ?_)
theorem midB {w : World} {A : Around} {s : Shared} {Q : Flow → Shared → Prop} {p : Program} {loose : List PySem.Str} {mean : ExcName → Option Value} {mg mb : PySem.Str → Option Value} {h₀ : Heap} {L fa : Addr} {m : PySem.Str → Option Value} {news : List (Addr × Obj)}
    (X : (Mine.hd.heap_39 w.params).In h₀) (T : Top p loose mean mg mb h₀) (hroom : A.depth + 5 < recursionLimit) (hh : A.handled = none)
    {olb : Obj} {kv : Option Value} {st : Nat} {t : Tok} (F : Fr h₀ L s.heap m) (N : News h₀ L s.heap ((L + 1 + 1, olb) :: news)) (hkv : olb.data = .cell kv) (hoff : OwnOff news [L + 1 + 1]) (hm : m (Str.ofString "start") = some (.int (st : Int) t)) (hst : st < 6)
    (hQ : ∀ h' tk olb' lb lits ln, Fr h₀ L h' m → News h₀ L h' ((L + 1 + 1, olb') :: (lb, W.listOf lits ln) :: news) → olb'.data = .cell (some (.ref lb)) → (∀ p ∈ (L + 1 + 1, olb) :: news, p.1 < lb) → (∀ j, j < 5 → ∃ t, lits[j]? = some (.str (flagName (st + j)) t)) → Q .next { s with heap := h', toks := tk }) :
    wpAny (model prog w) A (exec (lawAt 3) (lawEnv L fa)) Q NoE s := by
  obtain ⟨hd, d, fr, gu, un⟩ := A
  cases hh
  rw [map1 hm] at F
  conv in (lawAt 3) => whnf
  k_steps
  have hroom' : Around.depth { depth := d, frames := fr, guards := gu, units := un } < recursionLimit := Nat.lt_of_le_of_lt (Nat.le_add_right _ 5) hroom
  refine hold_in (wpAny_call ?_)
  refine words1 (p := p) (loose := loose) (mean := mean) (mg := mg) (mb := mb) ?_ ?_ hroom' rfl ?_
  · exact X.keeps F.keep
  · exact T.keeps F.keep
  intro h₂ tk₂ D its nn k₂ hn₂ hg₂ hW
  have F₂ := F.keeps k₂
  have N₂ := news_add F N k₂ hn₂ hg₂
  have hDn : ∀ p ∈ (L + 1 + 1, olb) :: news, p.1 ≠ D := fun p hp e => by
    have := (N p hp).1
    rw [e, hn₂] at this
    cases this
  have hD2 : D ≠ L + 1 + 1 := Ne.symm (hDn _ (.head _))
  clear F N k₂ hn₂ hg₂
  obtain ⟨t0, t1, t2, t3, t4, t5, t6, t7, t8, t9, rfl⟩ := hW
  rcases (show st = 0 ∨ st = 1 ∨ st = 2 ∨ st = 3 ∨ st = 4 ∨ st = 5 by omega) with rfl | rfl | rfl | rfl | rfl | rfl
  all_goals (
    k_steps
    rename Fr _ _ _ _ => F
    rename News _ _ _ _ => N
    rename _ ∧ _ => hlt
    rw [← map1 hm] at F
    rename Obj => o'
    rename _ = Data.cell _ => hd'
    refine hQ _ _ o' _ _ 0 F (news_swap N) hd' (fun p hp => ?_) (fun j hj => ?_)
    · rcases List.mem_cons.mp hp with rfl | hp
      · exact hlt.2.1
      · exact allLt_mem hlt.2.2 p hp
    · rcases (show j = 0 ∨ j = 1 ∨ j = 2 ∨ j = 3 ∨ j = 4 by omega) with rfl | rfl | rfl | rfl | rfl
      all_goals exact ⟨_, rfl⟩)
end
end Mine
end

-- Mid2
section
open PySem PySem.W PyProof.Rows in
theorem Mine.resetMid2 : True ∧ True := by
  w_top off
  walk1
  all_goals exact True.intro
end
section
open PySem PySem.W PyProof.Rows PySem.Calls
namespace Mine
theorem news6 {h₀ h : Heap} {L : Addr} {a b c d e f : Addr × Obj} {news : List (Addr × Obj)} (N : News h₀ L h (a :: b :: c :: d :: e :: f :: news)) : News h₀ L h (f :: e :: c :: d :: b :: a :: news) := fun p hp => N p (by
  simp only [List.mem_cons] at hp ⊢
  grind)
theorem midC {w : World} {A : Around} {s : Shared} {Q : Flow → Shared → Prop} {p : Program} {loose : List PySem.Str} {mean : ExcName → Option Value} {mg mb : PySem.Str → Option Value} {h₀ : Heap} {L fa : Addr} {m : PySem.Str → Option Value} {news : List (Addr × Obj)}
    (X : (Mine.hd.heap_39 w.params).In h₀) (T : Top p loose mean mg mb h₀) (hroom : A.depth + 5 < recursionLimit) (hh : A.handled = none)
    {os : Obj} {kv : Option Value} (F : Fr h₀ L s.heap m) (N : News h₀ L s.heap ((L + 1 + 1 + 1 + 1 + 1, os) :: news)) (hkv : os.data = .cell kv) (hoff : OwnOff news [L + 1 + 1 + 1 + 1 + 1])
    (hQ : ∀ h' tk m' os' sd od ch c0 fi se tf ts, Fr h₀ L h' m' → (∀ x ∈ ["numbers", "start"], m' (Str.ofString x) = m (Str.ofString x)) → m' (Str.ofString "choices") = some (.ref ch) → m' (Str.ofString "firsts") = some (.ref fi) → m' (Str.ofString "seconds") = some (.ref se) →
      News h₀ L h' ((L + 1 + 1 + 1 + 1 + 1, os') :: (sd, od) :: (ch, W.listOf #[.ref c0] 0) :: (c0, W.listOf #[] 0) :: (fi, W.listOf #[.int 0 tf] 0) :: (se, W.listOf #[.int 0 ts] 0) :: news) → os'.data = .cell (some (.ref sd)) → od.IsDictOf (strKind prog w) [] →
      @LT.lt Nat _ (L + 1 + 1 + 1 + 1 + 1) sd → (∀ p ∈ news, p.1 < sd) → @LT.lt Nat _ sd ch → @LT.lt Nat _ sd c0 → @LT.lt Nat _ sd fi → @LT.lt Nat _ sd se → Q .next { s with heap := h', toks := tk }) :
    wpAny (model prog w) A (execs [lawAt 4, lawAt 5, lawAt 6, lawAt 7] (lawEnv L fa)) Q NoE s := by
  obtain ⟨hd, d, fr, gu, un⟩ := A
  cases hh
  conv in (lawAt 4) => whnf
  conv in (lawAt 5) => whnf
  conv in (lawAt 6) => whnf
  conv in (lawAt 7) => whnf
  k_steps
  rename_i sd _ od _ hs _ _ _ l1 _ os' hd' c0 _ l2 ch _ l3 _ tf fi _ l4 _ ts se _ l5 _ F N
  refine hQ _ _ _ os' sd od ch c0 fi se _ _ F ?_ rfl rfl rfl (news6 N) hd' hs l1.1 (allLt_mem l1.2) l3.2.1 l2.1 l4.2.2.1 l5.2.2.2.1
  intro x hx
  simp only [List.mem_cons, List.not_mem_nil, or_false] at hx
  rcases hx with rfl | rfl
  · rfl
  · rfl
end Mine
end

-- EndA
section
open PySem PySem.W PyProof.Rows in
theorem Mine.resetEndA : True ∧ True := by
  w_top off
  walk1
  all_goals exact True.intro
end
section
open PySem PySem.W PyProof.Rows PySem.Calls
namespace Mine
theorem news_four {h₀ h : Heap} {L : Addr} {a b c d : Addr × Obj} {news : List (Addr × Obj)} (N : News h₀ L h (a :: b :: c :: d :: news)) : News h₀ L h ([a, b, d, c] ++ news) := fun p hp => N p (by
  simp only [List.mem_cons, List.mem_append, List.not_mem_nil, or_false] at hp ⊢
  grind)
theorem endA {w : World} {A : Around} {s : Shared} {Q : Flow → Shared → Prop} {p : Program} {loose : List PySem.Str} {mean : ExcName → Option Value} {mg mb : PySem.Str → Option Value} {h₀ : Heap} {L fa : Addr} {m : PySem.Str → Option Value} {news : List (Addr × Obj)}
    (X : (Mine.hd.heap_39 w.params).In h₀) (T : Top p loose mean mg mb h₀) (hroom : A.depth + 5 < recursionLimit) (hh : A.handled = none) (hcd : CodeHd h₀ 104 102)
    {os : Obj} {sd : Addr} (F : Fr h₀ L s.heap m) (N : News h₀ L s.heap ((102, tabObj #[]) :: (L + 1 + 1 + 1 + 1 + 1, os) :: news)) (hos : os.data = .cell (some (.ref sd))) (hoff : OwnOff news [102]) (hL : @LT.lt Nat _ 102 L)
    (hQ : ∀ h' tk lk t NL, Fr h₀ L h' (fun y => if y = Str.ofString "balance" then some (.int 1 t) else if y = Str.ofString "look" then some (.ref lk) else m y) → News h₀ L h' (NL ++ news) → (∀ h f, News h₀ L h NL → h.MapOf (strKind prog w) sd f → LookAt h w lk f) → (∀ p ∈ NL, p.1 ≠ L + 1) → (∃ ps, (102, tabObj ps) ∈ NL) → Q .next { s with heap := h', toks := tk }) :
    wpAny (model prog w) A (execs [lawAt 9, lawAt 10] (lawEnv L fa)) Q NoE s := by
  obtain ⟨hd, d, fr, gu, un⟩ := A
  cases hh
  conv in (lawAt 9) => whnf
  conv in (lawAt 10) => whnf
  k_steps
  rename_i lk c' oc' vs' t' ct' _ _ d1 d2 l1 l2 _ _ F N
  refine hQ _ _ lk _ [_, _, _, _] F (news_four N) ?_ ?_ ⟨_, .tail _ (.tail _ (.tail _ (.head _)))⟩
  · intro h f NN hm
    refine ⟨_, _, _, c', ct', _, sd, os, _, _, _, _, (NN _ (.head _)).1, ⟨_, _, _, _, rfl, (NN _ (.tail _ (.head _))).1, d1, d2⟩, (NN _ (.tail _ (.tail _ (.head _)))).1, hos, hm⟩
  · intro p hp
    rcases List.mem_cons.mp hp with rfl | hp
    · exact neN (by omega)
    rcases List.mem_cons.mp hp with rfl | hp
    · exact neN (by omega)
    rcases List.mem_cons.mp hp with rfl | hp
    · exact neN (by dsimp only; omega)
    rcases List.mem_cons.mp hp with rfl | hp
    · exact neN (by dsimp only; omega)
    · cases hp
end Mine
end

-- Rest
section
open PySem PySem.W PyProof.Rows in
theorem Mine.resetRest : True ∧ True := by
  w_top off
  walk1
  all_goals exact True.intro
end
section
open PySem PySem.W PyProof.Rows PySem.Calls
namespace Mine
section
local macro_rules | `(tactic| walk_at "binaryOp Mod int int") => `(tactic| refine hold_out ?_)
theorem last12 {w : World} {A : Around} {s : Shared} {Q : Flow → Shared → Prop} {h₀ : Heap} {L fa : Addr} {m : PySem.Str → Option Value} {b : Int} {t : Tok}
    (F : Fr h₀ L s.heap m) (hm : m (Str.ofString "balance") = some (.int b t)) (hb : b % 3 = 0) (hh : A.handled = none)
    (hQ : ∀ tk, Q (.ret (.bool true)) { s with toks := tk }) :
    wpAny (model prog w) A (execs [lawAt 12] (lawEnv L fa)) Q NoE s := by
  obtain ⟨hd, d, fr, gu, un⟩ := A
  cases hh
  rw [map1 hm] at F
  have N : News h₀ L s.heap [] := News.nil
  conv in (lawAt 12) => whnf
  k_steps
  refine hold_in (mod_int' (by decide) ?_)
  rw [Int.fmod_eq_emod_of_nonneg _ (by decide), hb]
  k_steps
  exact hQ _
end
def xOf (a b c d e : Nat) : Nat → Nat
  | 0 => a | 1 => b | 2 => c | 3 => d | _ => e
theorem xOf_lt {a b c d e : Nat} (ha : a < 27) (hb : b < 27) (hc : c < 27) (hd : d < 27) (he : e < 27) : ∀ j, xOf a b c d e j < 27
  | 0 => ha | 1 => hb | 2 => hc | 3 => hd | _ + 4 => he
theorem five_x {its : Array Value} (h : Fives its) : ∃ x : Nat → Nat, (∀ j, x j < 27) ∧ ∀ j, j < 5 → ∃ t, its[j]? = some (.int (x j : Nat) t) := by
  obtain ⟨a, b, c, d, e, t1, t2, t3, t4, t5, rfl, h1, h2, h3, h4, h5⟩ := h
  refine ⟨xOf a b c d e, xOf_lt h1 h2 h3 h4 h5, fun j hj => ?_⟩
  rcases (show j = 0 ∨ j = 1 ∨ j = 2 ∨ j = 3 ∨ j = 4 by omega) with rfl | rfl | rfl | rfl | rfl
  all_goals exact ⟨_, rfl⟩
theorem up_is (x : Nat → Nat) (j : Nat) : 2 ≤ upOf x j ∧ upOf x j ≤ 4 := by unfold upOf; omega
theorem lo_is (x : Nat → Nat) (j : Nat) : 2 ≤ loOf x j ∧ loOf x j ≤ 4 := by unfold loOf; omega
theorem lawRest {w : World} {A : Around} {s : Shared} {Q : Flow → Shared → Prop} {p : Program} {loose : List PySem.Str} {mean : ExcName → Option Value} {mg mb : PySem.Str → Option Value} {h₀ : Heap} {L fa : Addr} {m : PySem.Str → Option Value}
    (X : (Mine.hd.heap_39 w.params).In h₀) (T : Top p loose mean mg mb h₀) (hroom : A.depth + 5 < recursionLimit) (hu : A.units + 100 < cLine) (hh : A.handled = none) (hcd : CodeHd h₀ 104 102) (hL : @LT.lt Nat _ 102 L)
    {sc nu : Addr} {vs : List Value} {ns : List Int} {its : Array Value} {nn : Nat} {ok olb ou ol os : Obj} {k1 k2 k3 k4 k5 : Option Value}
    (hsc : h₀.IsList sc vs.toArray) (hns : IntsAre vs ns) (h63 : ns.length ≤ 63) (F : Fr h₀ L s.heap m)
    (N : News h₀ L s.heap [(nu, W.listOf its nn), (L + 1 + 1 + 1 + 1 + 1, os), (L + 1 + 1 + 1 + 1, ol), (L + 1 + 1 + 1, ou), (L + 1 + 1, olb), (L + 1, ok), (102, tabObj #[])])
    (h1 : ok.data = .cell k1) (h2 : olb.data = .cell k2) (h3 : ou.data = .cell k3) (h4 : ol.data = .cell k4) (h5 : os.data = .cell k5) (hnu : @LT.lt Nat _ (L + 1 + 1 + 1 + 1 + 1) nu) (h5v : Fives its)
    (hm1 : m (Str.ofString "script") = some (.ref sc)) (hm2 : m (Str.ofString "numbers") = some (.ref nu))
    (hQ : ∀ h' tk m', Fr h₀ L h' m' → GrownAt 102 h' → Q (.ret (.bool true)) { s with heap := h', toks := tk }) :
    wpAny (model prog w) A (execs [lawAt 1, lawAt 2, lawAt 3, lawAt 4, lawAt 5, lawAt 6, lawAt 7, lawAt 8, lawAt 9, lawAt 10, lawAt 11, lawAt 12] (lawEnv L fa)) Q NoE s := by
  refine wpAny_execs_cons ?_
  have N0 : News h₀ L s.heap ((L + 1, ok) :: (nu, W.listOf its nn) :: [(L + 1 + 1 + 1 + 1 + 1, os), (L + 1 + 1 + 1 + 1, ol), (L + 1 + 1 + 1, ou), (L + 1 + 1, olb), (102, tabObj #[])]) := fun p hp => N p (by grind)
  refine loop1 (own0 := [(L + 1 + 1 + 1 + 1 + 1, os), (L + 1 + 1 + 1 + 1, ol), (L + 1 + 1 + 1, ou), (L + 1 + 1, olb), (102, tabObj #[])]) X T hroom hu hh hsc hns h63 F N0 h1 ?_ (neN (by omega)) h5v hm1 hm2 ?_
  · intro p hp b hb
    simp only [List.mem_cons, List.not_mem_nil, or_false] at hp hb
    rcases hp with rfl | rfl | rfl | rfl | rfl <;> rcases hb with rfl | rfl <;> exact neN (by dsimp only; omega)
  clear F N N0 hm1 hm2 h1 h5v
  intro s₁ tk₁ m₁ ok₁ kv₁ its₁ nn₁ F₁ N₁ hk₁ hF₁ hm₁
  refine wpAny_execs_cons ?_
  refine midA X T hroom hh F₁ N₁ hm₁ (.tail _ (.head _)) hF₁ ?_
  intro s₂ tk₂ st t₂ hst F₂ N₂
  clear F₁ N₁
  refine wpAny_execs_cons ?_
  have N2 : News h₀ L s₂ ((L + 1 + 1, olb) :: [(L + 1, ok₁), (nu, W.listOf its₁ nn₁), (L + 1 + 1 + 1 + 1 + 1, os), (L + 1 + 1 + 1 + 1, ol), (L + 1 + 1 + 1, ou), (102, tabObj #[])]) := fun p hp => N₂ p (by grind)
  refine midB (news := [(L + 1, ok₁), (nu, W.listOf its₁ nn₁), (L + 1 + 1 + 1 + 1 + 1, os), (L + 1 + 1 + 1 + 1, ol), (L + 1 + 1 + 1, ou), (102, tabObj #[])]) X T hroom hh F₂ N2 h2 ?_ rfl hst ?_
  · intro p hp b hb
    simp only [List.mem_cons, List.not_mem_nil, or_false] at hp hb
    subst hb
    rcases hp with rfl | rfl | rfl | rfl | rfl | rfl <;> exact neN (by dsimp only; omega)
  intro s₃ tk₃ olb₃ lb lits ln F₃ N₃ hlb hlt₃ hlits
  clear F₂ N₂ N2
  refine execs_two [lawAt 4, lawAt 5, lawAt 6, lawAt 7] (l2 := [lawAt 8, lawAt 9, lawAt 10, lawAt 11, lawAt 12]) ?_
  have N3 : News h₀ L s₃ ((L + 1 + 1 + 1 + 1 + 1, os) :: [(L + 1 + 1, olb₃), (lb, W.listOf lits ln), (L + 1, ok₁), (nu, W.listOf its₁ nn₁), (L + 1 + 1 + 1 + 1, ol), (L + 1 + 1 + 1, ou), (102, tabObj #[])]) := fun p hp => N₃ p (by grind)
  have hlbL : @LT.lt Nat _ (L + 1 + 1 + 1 + 1 + 1) lb := hlt₃ (L + 1 + 1 + 1 + 1 + 1, os) (by grind)
  refine midC (news := [(L + 1 + 1, olb₃), (lb, W.listOf lits ln), (L + 1, ok₁), (nu, W.listOf its₁ nn₁), (L + 1 + 1 + 1 + 1, ol), (L + 1 + 1 + 1, ou), (102, tabObj #[])]) X T hroom hh F₃ N3 h5 ?_ ?_
  · intro p hp b hb
    simp only [List.mem_cons, List.not_mem_nil, or_false] at hp hb
    subst hb
    rcases hp with rfl | rfl | rfl | rfl | rfl | rfl | rfl <;> exact neN (by dsimp only; omega)
  intro s₄ tk₄ m₄ os₄ sd od ch c0 fi se tf ts F₄ hr₄ hch hfi hse N₄ hos hod hsd hlt₄ hd1 hd2 hd3 hd4
  clear F₃ N₃ N3
  have hnum : m₄ (Str.ofString "numbers") = some (.ref nu) := (hr₄ "numbers" (by simp)).trans hm₁
  have hstart : m₄ (Str.ofString "start") = some (.int ((st : Nat) : Int) t₂) := (hr₄ "start" (by simp)).trans rfl
  have hnusd : @LT.lt Nat _ nu sd := hlt₄ (nu, W.listOf its₁ nn₁) (by grind)
  have hlbsd : @LT.lt Nat _ lb sd := hlt₄ (lb, W.listOf lits ln) (by grind)
  obtain ⟨x, hx, hxi⟩ := five_x hF₁
  refine wpAny_execs_cons ?_
  refine loop2 (x := x) (st := st) (sd := sd) (ot := tabObj #[]) X T hroom hu hh F₄ (news := (L + 1, ok₁) :: (L + 1 + 1 + 1, ou) :: (L + 1 + 1 + 1 + 1, ol) :: (sd, od) :: (102, tabObj #[]) :: [(nu, W.listOf its₁ nn₁), (L + 1 + 1, olb₃), (lb, W.listOf lits ln), (L + 1 + 1 + 1 + 1 + 1, os₄), (ch, W.listOf #[.ref c0] 0), (c0, W.listOf #[] 0), (fi, W.listOf #[.int 0 tf] 0), (se, W.listOf #[.int 0 ts] 0)]) (fun p hp => N₄ p (by simp only [List.mem_cons, List.not_mem_nil, or_false] at hp ⊢; grind only)) hL hsd hst hx ?_ ?_
  · refine ⟨ok₁, ou, ol, od, [], [(nu, W.listOf its₁ nn₁), (L + 1 + 1, olb₃), (lb, W.listOf lits ln), (L + 1 + 1 + 1 + 1 + 1, os₄), (ch, W.listOf #[.ref c0] 0), (c0, W.listOf #[] 0), (fi, W.listOf #[.int 0 tf] 0), (se, W.listOf #[.int 0 ts] 0)], kv₁, k3, k4, rfl, hk₁, h3, h4, hod, ?_, ?_⟩
    · intro p hp b hb
      simp only [List.mem_cons, List.not_mem_nil, or_false] at hp hb
      rcases hp with rfl | rfl | rfl | rfl | rfl | rfl | rfl | rfl <;> rcases hb with rfl | rfl | rfl | rfl | rfl <;> exact neN (by dsimp only; omega)
    · refine ⟨⟨_, hstart⟩, ⟨nu, its₁, nn₁, hnum, by grind, hxi⟩, ⟨olb₃, lb, lits, ln, by grind, hlb, by grind, hlits⟩, ⟨os₄, by grind, hos⟩, ⟨ch, #[.ref c0], 0, hch, by grind, rfl, ?_⟩, ⟨fi, #[.int 0 tf], 0, hfi, by grind, rfl, ?_⟩, ⟨se, #[.int 0 ts], 0, hse, by grind, rfl, ?_⟩, (fun j hj => absurd hj (Nat.not_lt_zero _)), Nat.le_refl _⟩
      · intro k hk
        have hk0 : k = 0 := by simp at hk; exact hk
        subst hk0
        exact ⟨c0, [], 0, rfl, by grind, .nil⟩
      · intro k hk
        have hk0 : k = 0 := by simp at hk; exact hk
        subst hk0
        exact ⟨tf, rfl⟩
      · intro k hk
        have hk0 : k = 0 := by simp at hk; exact hk
        subst hk0
        exact ⟨ts, rfl⟩
  intro s₅ tk₅ m₅ news₅ F₅ N₅ hJ₅
  clear F₄ N₄
  obtain ⟨ok₅, ou₅, ol₅, od₅, kvs, own, kv₅, kv6, kv7, rfl, hk₅, _, _, hod₅, hoff₅, I⟩ := hJ₅
  obtain ⟨os₅, c1, c2⟩ := I.sent
  have N5 : News h₀ L s₅ ((102, tabObj #[]) :: (L + 1 + 1 + 1 + 1 + 1, os₅) :: ((L + 1, ok₅) :: (sd, od₅) :: own)) := fun p hp => N₅ p (by simp only [List.mem_cons] at hp ⊢; grind)
  refine execs_two [lawAt 9, lawAt 10] (l2 := [lawAt 11, lawAt 12]) ?_
  refine endA (news := (L + 1, ok₅) :: (sd, od₅) :: own) X T hroom hh hcd F₅ N5 c2 ?_ hL ?_
  · intro p hp b hb
    rcases List.mem_cons.mp hp with rfl | hp
    · rw [List.mem_singleton.mp hb]; exact neN (by dsimp only; omega)
    rcases List.mem_cons.mp hp with rfl | hp
    · rw [List.mem_singleton.mp hb]; exact neN (by dsimp only; omega)
    · exact hoff₅ p hp b (by rw [List.mem_singleton.mp hb]; simp)
  intro s₆ tk₆ lk t₆ NL F₆ N₆ hlk hNL htab
  obtain ⟨ps, htab⟩ := htab
  clear F₅ N₅ N5
  refine wpAny_execs_cons ?_
  have N6 : News h₀ L s₆ ((L + 1, ok₅) :: (NL ++ ((sd, od₅) :: own))) := fun p hp => N₆ p (by simp only [List.mem_cons, List.mem_append] at hp ⊢; grind)
  obtain ⟨ts5, i1⟩ := I.start
  obtain ⟨ch5, cits, cn, e1, e2, _, e4⟩ := I.choices
  obtain ⟨fi5, fits, fn, p1, p2, _, p4⟩ := I.firsts
  obtain ⟨se5, sits, sn, q1, q2, _, q4⟩ := I.seconds
  refine loop3 (own0 := NL ++ ((sd, od₅) :: own)) X T hroom hu hh F₆ N6 hk₅ ?_ (ch := ch5) (fi := fi5) (se := se5) (lk := lk) (st := st) (up := upOf x) (lo := loOf x) hst (up_is x) (lo_is x) ⟨⟨_, i1⟩, e1, p1, q1, rfl, ⟨_, rfl⟩⟩ ⟨?_, ?_, ?_, ⟨?_⟩⟩ ?_
  · intro p hp b hb
    rw [List.mem_singleton.mp hb]
    rcases List.mem_append.mp hp with hp | hp
    · exact hNL p hp
    rcases List.mem_cons.mp hp with rfl | hp
    · exact neN (by dsimp only; omega)
    · exact hoff₅ p hp _ (.head _)
  · refine ⟨cits, cn, List.mem_append_right _ (.tail _ e2), fun k hk => ?_⟩
    obtain ⟨r, us, n', g1, g2, g3⟩ := e4 k hk
    exact ⟨r, us, n', g1, List.mem_append_right _ (.tail _ g2), by rw [names_letters hst hk]; exact g3⟩
  · exact ⟨fits, fn, List.mem_append_right _ (.tail _ p2), fun k hk => p4 k hk⟩
  · exact ⟨sits, sn, List.mem_append_right _ (.tail _ q2), fun k hk => q4 k hk⟩
  · refine ⟨valueAt kvs, fun h Nh _ => hlk h _ (fun p hp => Nh p (List.mem_append_left _ hp)) (Heap.dictOf_iff.mpr ⟨od₅, (Nh (sd, od₅) (List.mem_append_right _ (.head _))).1, hod₅⟩).mapOf, fun j hj => ?_⟩
    obtain ⟨r, u1, u2, u3, n', g1, g2⟩ := I.rows j hj
    exact ⟨r, u1, u2, u3, n', g1, List.mem_append_right _ (.tail _ g2)⟩
  · intro s₇ tk₇ m₇ t₇ F₇ N₇ hb₇
    exact last12 F₇ hb₇ (olson _ _) hh fun tk => hQ _ tk m₇ F₇ (GrownAt.of N₇ (List.mem_append_left _ htab))
end Mine
end

-- All
section
open PySem PySem.W PyProof.Rows in
theorem Mine.resetAll : True ∧ True := by
  w_top off
  walk1
  all_goals exact True.intro
end
section
open PySem PySem.W PyProof.Rows PySem.Calls
namespace Mine
theorem start0 {w : World} {A : Around} {s : Shared} {Q : Flow → Shared → Prop} {h₀ : Heap} {L fa : Addr} {m : PySem.Str → Option Value} {news : List (Addr × Obj)}
    (hh : A.handled = none) (F : Fr h₀ L s.heap m) (N : News h₀ L s.heap news)
    (hQ : ∀ h' tk nu its, Fr h₀ L h' (fun y => if y = Str.ofString "numbers" then some (.ref nu) else m y) → News h₀ L h' ((nu, W.listOf its 0) :: news) → Fives its → (∀ p ∈ news, p.1 < nu) → Q .next { s with heap := h', toks := tk }) :
    wpAny (model prog w) A (exec (lawAt 0) (lawEnv L fa)) Q NoE s := by
  obtain ⟨hd, d, fr, gu, un⟩ := A
  cases hh
  have hlt := news_lt N
  conv in (lawAt 0) => whnf
  k_steps
  rename Fr _ _ _ _ => F
  rename News _ _ _ _ => N
  exact hQ _ _ _ _ F N ⟨5, 16, 26, 2, 9, _, _, _, _, _, rfl, by decide, by decide, by decide, by decide, by decide⟩ hlt
theorem lawAll {w : World} {A : Around} {s : Shared} {Q : Flow → Shared → Prop} {E : Value → Shared → Prop} {p : Program} {loose : List PySem.Str} {mean : ExcName → Option Value} {mg mb : PySem.Str → Option Value} {h₀ : Heap} {L fa : Addr} {m : PySem.Str → Option Value}
    (X : (Mine.hd.heap_39 w.params).In h₀) (T : Top p loose mean mg mb h₀) (hroom : A.depth + 5 < recursionLimit) (hu : A.units + 100 < cLine) (hh : A.handled = none) (hcd : CodeHd h₀ 104 102) (hL : @LT.lt Nat _ 102 L)
    {sc : Addr} {vs : List Value} {ns : List Int} {ok olb ou ol os : Obj} {k1 k2 k3 k4 k5 : Option Value}
    (hsc : h₀.IsList sc vs.toArray) (hns : IntsAre vs ns) (h63 : ¬ ((63 : Nat) : Int) < (ns.length : Int)) (F : Fr h₀ L s.heap m)
    (N : News h₀ L s.heap [(L + 1 + 1 + 1 + 1 + 1, os), (L + 1 + 1 + 1 + 1, ol), (L + 1 + 1 + 1, ou), (L + 1 + 1, olb), (L + 1, ok), (102, tabObj #[])])
    (h1 : ok.data = .cell k1) (h2 : olb.data = .cell k2) (h3 : ou.data = .cell k3) (h4 : ol.data = .cell k4) (h5 : os.data = .cell k5) (hm1 : m (Str.ofString "script") = some (.ref sc))
    (hQ : ∀ h' tk m', Fr h₀ L h' m' → GrownAt 102 h' → Q (.ret (.bool true)) { s with heap := h', toks := tk }) :
    wpAny (model prog w) A (execs [lawAt 0, lawAt 1, lawAt 2, lawAt 3, lawAt 4, lawAt 5, lawAt 6, lawAt 7, lawAt 8, lawAt 9, lawAt 10, lawAt 11, lawAt 12] (lawEnv L fa)) Q E s := by
  refine wpAny_mono (E := NoE) ?_ (fun _ _ x => x) fun _ _ x => x.elim
  refine wpAny_execs_cons ?_
  refine start0 hh F N ?_
  intro h' tk nu its F' N' h5' hlt
  exact lawRest X T hroom hu hh hcd hL hsc hns (by omega) F' N' h1 h2 h3 h4 h5 (hlt _ (.head _)) h5' (by show m _ = _; exact hm1) rfl hQ
end Mine
end

-- Top
section
open PySem PySem.W PyProof.Rows in
theorem Mine.resetTop : True ∧ True := by
  w_top off
  walk1
  all_goals exact True.intro
end
section
open PySem PySem.W PyProof.Rows PySem.Calls
namespace Mine
section
local macro_rules | `(tactic| walk_at "execs cons") => `(tactic| refine hold_out ?_)
theorem top : PySem.Challenge.rw_re0031_01.Holds := hd (by
  k_go0
  (all_goals try k_fold)
  k_steps
  rename (hd.heap_39 _).In _ => X
  rename Top topProg _ _ _ _ (ghostOf _ _) => T
  rename CodeHd _ _ _ => hcd
  rename Fr _ _ _ _ => F
  rename News _ _ _ _ => N
  rename IntsAre _ _ => hns
  rename ¬ _ => h63
  rename @LT.lt Nat _ 102 _ => hL
  rename Shared.gens _ = _ => hg
  refine hold_in (lawAll X T ?_ ?_ rfl hcd hL lifted hns h63 F N (by assumption) (by assumption) (by assumption) (by assumption) (by assumption) rfl ?_)
  · simp only [depth_deeper, depth_caller, recursionLimit]
    omega
  · have h := cLine_is
    simp only [units_deeper, units_caller, cLine] at *
    omega
  · intro h' tk m' F' hgr
    refine ⟨?_, hgr, trivial⟩
    first | (k_end; wrow_close) | wrow_close | (w_end; wrow_close))
end
end Mine
end

theorem PySem.Challenge.cw_re0031_01_holds : PySem.Challenge.rw_re0031_01.Holds := by
  exact Mine.top
