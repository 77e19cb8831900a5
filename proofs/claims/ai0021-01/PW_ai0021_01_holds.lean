import PyProof.Rows.All
import Wide.All
import OpenK.AllK
import Wide.FinOn
import PySem.Challenge.RW_ai0021_01
open PySem PySem.W PyProof.Rows PySem.Calls
set_option Elab.async false
namespace Mine
section
local macro_rules | `(tactic| o_head $_) => `(tactic| assumption)
set_option maxRecDepth 100000 in
set_option maxHeartbeats 8000000 in
theorem pre (_h : PySem.Challenge.rw_ai0021_01.row.Holds) : PySem.Challenge.rw_ai0021_01.row.Holds := by
  k_head
end
end Mine
namespace Mine
section
variable {prog : Program} {w : World} {A : Around} {E : Value → Shared → Prop} {s : Shared} {env : Env} {h₀ : Heap}

def EnAt (prog : Program) (w : World) (A : Around) (h₀ : Heap) (env : Env) (xi xc : Str) (body : List Stmt) (Q : Flow → Shared → Prop) (E : Value → Shared → Prop) (it : Value) (s₂ : Shared) : Prop :=
  ∃ (e it' l : Addr) (n : Nat) (m : Str → Option Value) (news : List (Addr × Obj)) (J : Nat → (Str → Option Value) → List (Addr × Obj) → Prop),
    it = .ref e ∧ A.handled = none ∧ e ≠ it' ∧ e ≠ env.locals ∧ it' ≠ env.locals ∧ h₀.get? e = none ∧ h₀.get? it' = none ∧ (∀ p ∈ news, p.1 ≠ e ∧ p.1 ≠ it') ∧
    IsEnum s₂.heap e it' 0 .none ∧ s₂.heap.IsListIter it' l 0 ∧ Fr h₀ env.locals s₂.heap m ∧ News h₀ env.locals s₂.heap news ∧ J 0 m news ∧
    (∀ i m' nw, J i m' nw → ∃ vs nn, (l, listOf (List.toArray vs) nn) ∈ nw ∧ vs.length = n) ∧
    (∀ i v t m₁ nw h tk own vs nn, i < n → (l, listOf (List.toArray vs) nn) ∈ nw → vs[i]? = some v → nw.map (·.1) = news.map (·.1) → OwnOff own (news.map (·.1)) → J i m₁ nw →
      Fr h₀ env.locals h (fun y => if y = xc then some v else if y = xi then some (.int i t) else m₁ y) → News h₀ env.locals h (nw ++ own) →
      wpAny (model prog w) A (execs body env) (InvPostN h₀ env.locals (J (i + 1)) own (news.map (·.1)) { s₂ with heap := h, toks := tk } Q) E { s₂ with heap := h, toks := tk }) ∧
    (∀ m₁ nw h tk, J n m₁ nw → Fr h₀ env.locals h m₁ → News h₀ env.locals h nw → Q .next { s₂ with heap := h, toks := tk })

theorem For_en {Q : Flow → Shared → Prop} {xi xc : Str} {pk pv pt pos : Pos} {x1 : Nat} {iter : Expr} {body : List Stmt} (h₀ : Heap)
    (hxi : env.kindOf xi = some .local) (hxc : env.kindOf xc = some .local)
    (hp : (env.scope.kind == .class || (env.scope.kind == .module && env.locals != env.globals)) = false)
    (h : wpAny (model prog w) A (eval iter env) (fun xv s₁ => wpAny (model prog w) A (pyIter xv) (fun it s₂ => EnAt prog w A h₀ env xi xc body Q E it s₂) E s₁) E s)
    (hs : ∀ x, foldedSetIterable iter env x = pure x)
    (hE : PassesOwn (model prog w) A env E := by passes_own) :
    wpAny (model prog w) A (exec (.For (.Tuple [.Name xi pk, .Name xc pv] x1 pt) iter body [] pos) env) Q E s := by
  refine wpAny_For (wpAny_mono h (fun xv s₁ h₁ => wpAny_mono h₁ (fun it s₂ h₂ => ?_) fun _ _ e => e) fun _ _ e => e) hs
  obtain ⟨e, it', l, n, m, news, J, rfl, hh, hei, heL, hiL, he0, hi0, hoff, hen, hit, F, N, hj, hJl, step, done⟩ := h₂
  have step' : ∀ i v t m₁ nw h tk own vs nn, i < n → (l, listOf (List.toArray vs) nn) ∈ nw → vs[i]? = some v → nw.map (·.1) = news.map (·.1) → OwnOff own (news.map (·.1)) → J i m₁ nw →
      Fr h₀ env.locals h (fun y => if y = xc then some v else if y = xi then some (.int i t) else m₁ y) → News h₀ env.locals h (nw ++ own) →
      wpAny (model prog w) A (execs body env) (InvPostN h₀ env.locals (J (i + 1)) own (news.map (·.1)) { s₂ with heap := h, toks := tk } Q) (notedBy (model prog w) A env (cameBackBy (model prog w) A env E)) { s₂ with heap := h, toks := tk } :=
    fun i v t m₁ nw h tk own vs nn a1 a2 a3 a4 a5 a6 a7 a8 => wpAny_passesOwn hE (step i v t m₁ nw h tk own vs nn a1 a2 a3 a4 a5 a6 a7 a8)
  refine codeAny_forLoop_any (R := fun r s' => match r with | .ok f => Q f s' | .error e => cameBackBy (model prog w) A env E e s')
    (fun k s' => ∃ H tk m' nw i old, s' = { s₂ with heap := H, toks := tk } ∧ IsEnum H e it' ((i : Nat) : Int) old ∧ H.IsListIter it' l i ∧ Fr h₀ env.locals H m' ∧ News h₀ env.locals H nw ∧ nw.map (·.1) = news.map (·.1) ∧ J i m' nw ∧ i ≤ n ∧ k = n + 1 - i) ?_ (n + 1)
    ⟨s₂.heap, s₂.toks, m, news, 0, .none, rfl, hen, hit, F, N, rfl, hj, Nat.zero_le _, rfl⟩
  rintro k s' ⟨H, tk, m', nw, i, old, rfl, he', hit', F', N', hadr, hJ, hi, rfl⟩
  obtain ⟨vs, nn, hmem, hlen⟩ := hJl i m' nw hJ
  have hoff' : ∀ p ∈ nw, p.1 ≠ e ∧ p.1 ≠ it' := fun p hp => by
    have : p.1 ∈ news.map (·.1) := hadr ▸ List.mem_map.mpr ⟨p, hp, rfl⟩
    obtain ⟨q, hq, e'⟩ := List.mem_map.mp this
    exact e' ▸ hoff q hq
  have hl' : H.IsList l vs.toArray := ⟨_, (N' _ hmem).1, rfl, nn, rfl⟩
  cases hv : vs[i]? with
  | none =>
    have hsz : i = n := Nat.le_antisymm hi (hlen ▸ List.getElem?_eq_none_iff.mp hv)
    refine wpAny_pyNext_enum_end hh he' hit' hl' (by simpa using hv) fun h₁ he₁ => wpAny_execs_nil ?_
    refine done m' nw h₁ tk (hsz ▸ hJ) ⟨F'.ns.extBut he₁ (Ne.symm hiL), fun b o x => he₁ b o (fun q => by rw [q, hi0] at x; cases x) (F'.keep b o x), F'.above⟩ fun p hp => ⟨he₁ _ _ (hoff' p hp).2 (N' p hp).1, (N' p hp).2⟩
  | some v =>
    have hlt : i < n := by rw [← hlen]; exact (List.getElem?_eq_some_iff.mp hv).1
    have heH : e < H.objs.size := Heap.lt_size he'
    have hLH : env.locals < H.objs.size := F'.ns.lt
    obtain ⟨oi, hoi, _⟩ := id hit'
    have hiH : it' < H.objs.size := Heap.lt_size hoi
    have hlt0 : ∀ b o, h₀.get? b = some o → b ≠ e ∧ b ≠ it' := fun b o x => ⟨fun q => (by rw [q, he0] at x; cases x), fun q => (by rw [q, hi0] at x; cases x)⟩
    refine wpAny_pyNext_enum_item he' hit' hl' (by simpa using hv) hei fun h₁ heo hit₁ ht₁ hz₁ hk₁ => ?_
    refine wpAny_letOwnedTupleGo_enum heo fun h₂ he₂ hs₂ => ?_
    replace hs₂ : Heap.SameBut e h₁ h₂ := hs₂
    have ht₂ : h₂.IsTuple H.objs.size #[.int i tk, v] := ⟨_, (hs₂.2 _ (Nat.ne_of_gt heH)).trans ht₁, rfl, _, rfl⟩
    have hz₂ : h₂.objs.size = H.objs.size + 1 := hs₂.1.trans hz₁
    refine wpAny_assign_Tuple hh ht₂ rfl rfl fun h₃ hx₃ => ?_
    replace hx₃ : Heap.ExtBut h₂.objs.size h₂ h₃ := hx₃
    have old₃ : ∀ b o, b < H.objs.size → h₂.get? b = some o → h₃.get? b = some o := fun b o hb x => hx₃ b o (by rw [hz₂]; exact Nat.ne_of_lt (Nat.lt_succ_of_lt hb)) x
    have up₃ : ∀ b o, b ≠ e → b ≠ it' → H.get? b = some o → h₃.get? b = some o := fun b o hbe hbi x => old₃ b o (Heap.lt_size x) (hs₂.extBut b o hbe (hk₁ b o hbe hbi x))
    have F₃ : Fr h₀ env.locals h₃ m' := ⟨F'.ns.at fun o x => up₃ _ o (Ne.symm heL) (Ne.symm hiL) x, fun b o x => up₃ b o (hlt0 b o x).1 (hlt0 b o x).2 (F'.keep b o x), F'.above⟩
    have e₃ : IsEnum h₃ e it' ((i : Int) + 1) v := old₃ e _ heH he₂
    have i₃ : h₃.IsListIter it' l (i + 1) := (hit₁.extBut hs₂.extBut (Ne.symm hei)).at fun o x => old₃ it' o hiH x
    obtain ⟨oi3, hoi3, rest3⟩ := id i₃
    have N₃ : News h₀ env.locals h₃ (nw ++ [(e, { cls := .type "enumerate", dict := none, data := .fields #[.none, .bool false, .ref it', rawInt ((i : Int) + 1), .none, v], slots := #[] }), (it', oi3)]) := fun p hp => by
      rcases List.mem_append.mp hp with hp | hp
      · exact ⟨up₃ _ _ (hoff' p hp).1 (hoff' p hp).2 (N' p hp).1, (N' p hp).2⟩
      · rcases List.mem_cons.mp hp with rfl | hp
        · exact ⟨e₃, heL, he0⟩
        · rw [List.mem_singleton.mp hp]
          exact ⟨hoi3, hiL, hi0⟩
    show wpAny _ A (do holding [v] (assign (.Name xi pk) env (.int i tk)); do holding [] (assign (.Name xc pv) env v); pure ()) _ _ _
    refine wpAny_bind (wpAny_holding (wpAny_assign_Name (wpAny_storeName_local hxi F₃.ns (fun h₄ hn₄ hs₄ => ?_) hp)))
    replace hs₄ : Heap.SameBut env.locals h₃ h₄ := hs₄
    have F₄ := F₃.set hn₄ hs₄
    refine wpAny_bind (wpAny_holding (wpAny_assign_Name (wpAny_storeName_local hxc F₄.ns (fun h₅ hn₅ hs₅ => wpAny_pure ?_) hp)))
    replace hs₅ : Heap.SameBut env.locals h₄ h₅ := hs₅
    have F₅ := F₄.set hn₅ hs₅
    have N₅ := (N₃.set hs₄).set hs₅
    have hown : OwnOff [(e, ({ cls := .type "enumerate", dict := none, data := .fields #[.none, .bool false, .ref it', rawInt ((i : Int) + 1), .none, v], slots := #[] } : Obj)), (it', oi3)] (news.map (·.1)) := by
      intro p hp b hb
      obtain ⟨q, hq, rfl⟩ := List.mem_map.mp hb
      rcases List.mem_cons.mp hp with rfl | hp
      · exact Ne.symm (hoff q hq).1
      · rw [List.mem_singleton.mp hp]
        exact Ne.symm (hoff q hq).2
    refine wpAny_mono (step' i v tk m' nw h₅ _ _ vs nn hlt hmem hv hadr hown hJ F₅ N₅) (fun f s₃ h₆ => ?_) fun _ _ x => x
    have fin : InvEndN h₀ env.locals (J (i + 1)) [(e, ({ cls := .type "enumerate", dict := none, data := .fields #[.none, .bool false, .ref it', rawInt ((i : Int) + 1), .none, v], slots := #[] } : Obj)), (it', oi3)] (news.map (·.1)) { s₂ with heap := h₅, toks := tk + 1 + 1 + 1 } s₃ →
        ∃ k, k < n + 1 - i ∧ ∃ H tk m' nw i old, s₃ = { s₂ with heap := H, toks := tk } ∧ IsEnum H e it' ((i : Nat) : Int) old ∧ H.IsListIter it' l i ∧ Fr h₀ env.locals H m' ∧ News h₀ env.locals H nw ∧ nw.map (·.1) = news.map (·.1) ∧ J i m' nw ∧ i ≤ n ∧ k = n + 1 - i := by
      rintro ⟨h₆, tk₆, m₆, news₆, nx, e₆, F₆, N₆, hn₆, ho₆, ha₆, hj₆⟩
      refine ⟨n + 1 - (i + 1), by omega, h₆, tk₆, m₆, nx, i + 1, v, e₆, ?_, ?_, F₆, fun p hp => N₆ p (hn₆ p hp), ha₆, hj₆, hlt, rfl⟩
      · have : ((i + 1 : Nat) : Int) = (i : Int) + 1 := by push_cast; rfl
        rw [this]
        exact (N₆ _ (ho₆ _ (List.mem_cons_self ..))).1
      · exact ⟨oi3, (N₆ _ (ho₆ _ (List.mem_cons_of_mem _ (List.mem_cons_self ..)))).1, rest3⟩
    cases f with
    | ret v => exact h₆
    | brk => exact h₆
    | next => exact fin h₆
    | cont => exact fin h₆

theorem call_en {Q : Flow → Shared → Prop} {xi xc : Str} {body : List Stmt} {l : Addr} {vs : List Value} {nn : Nat} {m : Str → Option Value} {news : List (Addr × Obj)}
    (J : Nat → (Str → Option Value) → List (Addr × Obj) → Prop) (hh : A.handled = none) (hl : (l, listOf (List.toArray vs) nn) ∈ news) (F : Fr h₀ env.locals s.heap m) (N : News h₀ env.locals s.heap news) (hj : J 0 m news)
    (hJl : ∀ i m' nw, J i m' nw → ∃ us nn, (l, listOf (List.toArray us) nn) ∈ nw ∧ us.length = vs.length)
    (step : ∀ i v t m₁ nw h tk own us nn, i < vs.length → (l, listOf (List.toArray us) nn) ∈ nw → us[i]? = some v → nw.map (·.1) = news.map (·.1) → OwnOff own (news.map (·.1)) → J i m₁ nw →
      Fr h₀ env.locals h (fun y => if y = xc then some v else if y = xi then some (.int i t) else m₁ y) → News h₀ env.locals h (nw ++ own) →
      wpAny (model prog w) A (execs body env) (InvPostN h₀ env.locals (J (i + 1)) own (news.map (·.1)) { s with heap := h, toks := tk } Q) E { s with heap := h, toks := tk })
    (done : ∀ m₁ nw h tk, J vs.length m₁ nw → Fr h₀ env.locals h m₁ → News h₀ env.locals h nw → Q .next { s with heap := h, toks := tk }) :
    wpAny (model prog w) A (call (.type "enumerate") [.ref l]) (fun xv s₁ => wpAny (model prog w) A (pyIter xv) (fun it s₂ => EnAt prog w A h₀ env xi xc body Q E it s₂) E s₁) E s := by
  have hls : s.heap.IsList l vs.toArray := ⟨_, (N _ hl).1, rfl, nn, rfl⟩
  have hLs : env.locals < s.heap.objs.size := F.ns.lt
  refine call_enumerate_list hls fun h' he hit hsz hk => ?_
  refine wpAny_pyIter_enum he ?_
  refine ⟨_, _, l, vs.length, m, news, J, rfl, hh, Nat.succ_ne_self _, Nat.ne_of_gt (Nat.lt_succ_of_lt hLs), Nat.ne_of_gt hLs, ?_, ?_, ?_, he, hit, F.keeps hk, N.grown hk, hj, hJl, step, done⟩
  · exact Heap.get?_none_of_le (Nat.le_trans F.above (Nat.le_of_lt (Nat.lt_succ_of_lt hLs)))
  · exact Heap.get?_none_of_le (Nat.le_trans F.above (Nat.le_of_lt hLs))
  · intro p hp
    have := Heap.lt_size (N p hp).1
    exact ⟨Nat.ne_of_lt (Nat.lt_succ_of_lt this), Nat.ne_of_lt this⟩
end
end Mine
namespace Mine
theorem paired_eq {α : Type} {xs ys : List α} (h : Paired (fun a b => b = a) xs ys) : ys = xs := by
  induction h with
  | nil => rfl
  | cons h _ ih => rw [h, ih]
theorem filter_all {α : Type} (l : List α) : l.filter (fun _ => true) = l := List.filter_eq_self.mpr (fun _ _ => rfl)
section
variable {prog : Program} {w : World} {A : Around} {E : Value → Shared → Prop} {s₁ : Shared} {h₀ : Heap} {L : Addr} {m : Str → Option Value} {news : List (Addr × Obj)}

theorem elt_name {x : Str} {px : Pos} {scope : Scope} {env : Env} {C : Addr} {v : Value} {s₃ : Shared} {m₃ : Str → Option Value} {E' : Value → Shared → Prop} (hkind : scope.kind = .function) (hx : scope.names.lookup x = some .local) (hd : (x == ("__debug__" : Str)) = false)
    (hn : s₃.heap.Ns C m₃) (hm : m₃ x = some v) : wpAny (model prog w) A (eval (.Name x px) (compEnv scope C env)) (fun y s₄ => y = v ∧ Keeps s₃ s₄) E' s₃ :=
  wpAny_Name (wpAny_loadName_local (env := compEnv scope C env) hkind hx hn hm ⟨rfl, _, _, rfl, fun _ _ e => e⟩) hd

theorem compA_copy {env : Env} {x z : Str} {px : Pos} {scope : Scope} {Q : Flow → Shared → Prop} {l : Addr} {vs : List Value} {nn : Nat}
    (hh : A.handled = none) (hl : (l, listOf (List.toArray vs) nn) ∈ news) (hsz : vs.length ≤ sizeLine) (F : Fr h₀ env.locals s₁.heap m) (N : News h₀ env.locals s₁.heap news)
    (hkind : scope.kind = .function) (hx : scope.names.lookup x = some .local) (hd : (x == ("__debug__" : Str)) = false)
    (g3 : ∀ D n h' tk, Fr h₀ env.locals h' (fun q => if q = z then some (.ref D) else m q) → News h₀ env.locals h' ((D, listOf (List.toArray vs) n) :: news) → (∀ p ∈ news, p.1 ≠ D) → Q .next { s₁ with heap := h', toks := tk }) :
    wpAny (model prog w) A (pyIter (.ref l)) (CompPostA prog w A env scope x z [] (.Name x px) Q) E s₁ := by
  have hls : s₁.heap.IsList l vs.toArray := ⟨_, (N _ hl).1, rfl, nn, rfl⟩
  have hlt : l < s₁.heap.objs.size := Heap.lt_size (N _ hl).1
  refine wpAny_pyIter_list hls ?_
  refine ⟨fun _ => true, fun v y => y = v, s₁.heap.objs.size, [s₁.heap.objs.size, l], [s₁.heap.objs.size], vs.toArray.size, _, _, m, rfl, Walks.list hh _ l (Nat.ne_of_lt hlt) vs.toArray, (by rw [List.size_toArray]; exact hsz),
    ⟨⟨_, Heap.get?_push_size _ rfl, rfl, rfl⟩, hls.at fun o e => Heap.get?_push_of_some _ e⟩, ?_, ?_, (F.push _).ns, ⟨?_, ?_⟩, ?_⟩
  · intro b hb
    show b < (s₁.heap.push _).objs.size
    rw [Heap.size_push]
    rcases List.mem_cons.mp hb with rfl | hb
    · exact Nat.lt_succ_self _
    · rw [List.mem_singleton.mp hb]; exact Nat.lt_succ_of_lt hlt
  · intro hm
    exact absurd F.ns.lt ((List.mem_singleton.mp hm) ▸ Nat.lt_irrefl _)
  · intro C i v s₃ m₃ E' hP hn hm _ htk
    exact wpAny_pure ⟨rfl, _, _, rfl, fun _ _ e => e⟩
  · intro C i v s₃ m₃ E' hP hp' hn hm _ htk
    exact elt_name hkind hx hd hn hm
  · intro D h' tk ys vs' hnew hlD hplD hlen hP hF hn' hk
    have e' : vs' = vs := by simpa using walked_is hlen hP
    subst e'
    rw [filter_all] at hF
    have e2 : ys = vs'.toArray := by rw [← paired_eq hF]
    subst e2
    obtain ⟨n, hD⟩ := hplD
    have neD : ∀ p ∈ news, p.1 ≠ D := fun p hp e => by rw [← e, Heap.get?_push_of_some _ (N p hp).1] at hnew; cases hnew
    have nL : D ≠ env.locals := fun e => by
      obtain ⟨o, _, _, ho, _⟩ := F.ns
      rw [e, Heap.get?_push_of_some _ ho] at hnew
      cases hnew
    have n0 : h₀.get? D = none := by
      cases e : h₀.get? D with
      | none => rfl
      | some o' => rw [Heap.get?_push_of_some _ (F.keep _ _ e)] at hnew; cases hnew
    refine g3 D n h' tk ⟨hn', fun b o' e => hk b o' (Nat.ne_of_lt (Nat.lt_of_lt_of_le (Heap.lt_size e) F.above)) (not_iter_of_old (F.keep b o' e)) (Heap.get?_push_of_some _ (F.keep b o' e)), F.above⟩ (fun p hp => ?_) neD
    rcases List.mem_cons.mp hp with rfl | hp
    · exact ⟨hD, nL, n0⟩
    · exact ⟨hk _ _ (N p hp).2.1 (not_iter_of_old (N p hp).1) (Heap.get?_push_of_some _ (N p hp).1), (N p hp).2⟩

theorem comp_pick {env : Env} {x : Str} {px : Pos} {scope : Scope} {test : Expr} {Q : Value → Shared → Prop} {l : Addr} {vs : List Value} {nn : Nat} (p : Value → Bool)
    (hh : A.handled = none) (hl : (l, listOf (List.toArray vs) nn) ∈ news) (hsz : vs.length ≤ sizeLine) (F : Fr h₀ L s₁.heap m) (N : News h₀ L s₁.heap news)
    (hkind : scope.kind = .function) (hx : scope.names.lookup x = some .local) (hd : (x == ("__debug__" : Str)) = false)
    (g1 : ∀ C v s₂ m₂ E', v ∈ vs → s₂.heap.Ns C m₂ → m₂ x = some v → (∀ b o, s₁.heap.get? b = some o → s₂.heap.get? b = some o) →
        wpAny (model prog w) A (isTrue test (compEnv scope C env) (eval test (compEnv scope C env))) (fun ok s₃ => ok = p v ∧ Keeps s₂ s₃) E' s₂)
    (g3 : ∀ D n h' tk, Fr h₀ L h' m → News h₀ L h' ((D, listOf (List.toArray (vs.filter p)) n) :: news) → (∀ p ∈ news, p.1 ≠ D) → Q (.ref D) { s₁ with heap := h', toks := tk }) :
    wpAny (model prog w) A (pyIter (.ref l)) (CompPost prog w A env scope x [test] (.Name x px) Q) E s₁ := by
  have hls : s₁.heap.IsList l vs.toArray := ⟨_, (N _ hl).1, rfl, nn, rfl⟩
  have hlt : l < s₁.heap.objs.size := Heap.lt_size (N _ hl).1
  refine wpAny_pyIter_list hls ?_
  refine ⟨p, fun v y => y = v, s₁.heap.objs.size, [s₁.heap.objs.size, l], [s₁.heap.objs.size], vs.toArray.size, _, _, rfl, Walks.list hh _ l (Nat.ne_of_lt hlt) vs.toArray, (by rw [List.size_toArray]; exact hsz),
    ⟨⟨_, Heap.get?_push_size _ rfl, rfl, rfl⟩, hls.at fun o e => Heap.get?_push_of_some _ e⟩, ?_, ⟨?_, ?_⟩, ?_⟩
  · intro b hb
    show b < (s₁.heap.push _).objs.size
    rw [Heap.size_push]
    rcases List.mem_cons.mp hb with rfl | hb
    · exact Nat.lt_succ_self _
    · rw [List.mem_singleton.mp hb]; exact Nat.lt_succ_of_lt hlt
  · intro C i v s₃ m₃ E' hP hn hm hk htk
    have hv : v ∈ vs := List.mem_of_getElem? (by simpa using hP)
    exact wpAny_tests_one (g1 C v s₃ m₃ E' hv hn hm fun b o e => hk b o (not_iter_of_old e) (Heap.get?_push_of_some _ e))
  · intro C i v s₃ m₃ E' hP hp' hn hm _ htk
    exact elt_name hkind hx hd hn hm
  · intro D h' tk ys vs' hnew hlD hplD hlen hP hF hk
    have e' : vs' = vs := by simpa using walked_is hlen hP
    subst e'
    have e2 : ys = (vs'.filter p).toArray := by rw [← paired_eq hF]
    subst e2
    obtain ⟨n, hD⟩ := hplD
    have neD : ∀ p ∈ news, p.1 ≠ D := fun p hp e => by rw [← e, Heap.get?_push_of_some _ (N p hp).1] at hnew; cases hnew
    have nL : D ≠ L := fun e => by
      obtain ⟨o, _, _, ho, _⟩ := F.ns
      rw [e, Heap.get?_push_of_some _ ho] at hnew
      cases hnew
    have n0 : h₀.get? D = none := by
      cases e : h₀.get? D with
      | none => rfl
      | some o' => rw [Heap.get?_push_of_some _ (F.keep _ _ e)] at hnew; cases hnew
    have up : ∀ b o, s₁.heap.get? b = some o → h'.get? b = some o := fun b o e => hk b o (not_iter_of_old e) (Heap.get?_push_of_some _ e)
    refine g3 D n h' tk (F.keeps up) (fun p hp => ?_) neD
    rcases List.mem_cons.mp hp with rfl | hp
    · exact ⟨hD, nL, n0⟩
    · exact ⟨up _ _ (N p hp).1, (N p hp).2⟩

theorem comp_elt {env : Env} {x : Str} {elt : Expr} {scope : Scope} {Q : Value → Shared → Prop} {l : Addr} {vs : List Value} {nn : Nat} (Fq : Value → Value → Prop)
    (hh : A.handled = none) (hl : (l, listOf (List.toArray vs) nn) ∈ news) (hsz : vs.length ≤ sizeLine) (F : Fr h₀ L s₁.heap m) (N : News h₀ L s₁.heap news)
    (g2 : ∀ C v s₂ m₂ E', v ∈ vs → s₂.heap.Ns C m₂ → m₂ x = some v → (∀ b o, s₁.heap.get? b = some o → s₂.heap.get? b = some o) →
        wpAny (model prog w) A (eval elt (compEnv scope C env)) (fun y s₃ => Fq v y ∧ Keeps s₂ s₃) E' s₂)
    (g3 : ∀ D n ys h' tk, Paired Fq vs ys → Fr h₀ L h' m → News h₀ L h' ((D, listOf (List.toArray ys) n) :: news) → (∀ p ∈ news, p.1 ≠ D) → Q (.ref D) { s₁ with heap := h', toks := tk }) :
    wpAny (model prog w) A (pyIter (.ref l)) (CompPost prog w A env scope x [] elt Q) E s₁ := by
  have hls : s₁.heap.IsList l vs.toArray := ⟨_, (N _ hl).1, rfl, nn, rfl⟩
  have hlt : l < s₁.heap.objs.size := Heap.lt_size (N _ hl).1
  refine wpAny_pyIter_list hls ?_
  refine ⟨fun _ => true, Fq, s₁.heap.objs.size, [s₁.heap.objs.size, l], [s₁.heap.objs.size], vs.toArray.size, _, _, rfl, Walks.list hh _ l (Nat.ne_of_lt hlt) vs.toArray, (by rw [List.size_toArray]; exact hsz),
    ⟨⟨_, Heap.get?_push_size _ rfl, rfl, rfl⟩, hls.at fun o e => Heap.get?_push_of_some _ e⟩, ?_, ⟨?_, ?_⟩, ?_⟩
  · intro b hb
    show b < (s₁.heap.push _).objs.size
    rw [Heap.size_push]
    rcases List.mem_cons.mp hb with rfl | hb
    · exact Nat.lt_succ_self _
    · rw [List.mem_singleton.mp hb]; exact Nat.lt_succ_of_lt hlt
  · intro C i v s₃ m₃ E' hP hn hm hk htk
    exact wpAny_pure ⟨rfl, _, _, rfl, fun _ _ e => e⟩
  · intro C i v s₃ m₃ E' hP hp' hn hm hk htk
    have hv : v ∈ vs := List.mem_of_getElem? (by simpa using hP)
    exact g2 C v s₃ m₃ E' hv hn hm fun b o e => hk b o (not_iter_of_old e) (Heap.get?_push_of_some _ e)
  · intro D h' tk ys vs' hnew hlD hplD hlen hP hF hk
    have e' : vs' = vs := by simpa using walked_is hlen hP
    subst e'
    rw [filter_all] at hF
    obtain ⟨n, hD⟩ := hplD
    have neD : ∀ p ∈ news, p.1 ≠ D := fun p hp e => by rw [← e, Heap.get?_push_of_some _ (N p hp).1] at hnew; cases hnew
    have nL : D ≠ L := fun e => by
      obtain ⟨o, _, _, ho, _⟩ := F.ns
      rw [e, Heap.get?_push_of_some _ ho] at hnew
      cases hnew
    have n0 : h₀.get? D = none := by
      cases e : h₀.get? D with
      | none => rfl
      | some o' => rw [Heap.get?_push_of_some _ (F.keep _ _ e)] at hnew; cases hnew
    have up : ∀ b o, s₁.heap.get? b = some o → h'.get? b = some o := fun b o e => hk b o (not_iter_of_old e) (Heap.get?_push_of_some _ e)
    refine g3 D n ys.toList h' tk hF (F.keeps up) (fun p hp => ?_) neD
    rcases List.mem_cons.mp hp with rfl | hp
    · exact ⟨by rw [Array.toArray_toList]; exact hD, nL, n0⟩
    · exact ⟨up _ _ (N p hp).1, (N p hp).2⟩
end
end Mine
namespace Mine
inductive El where
  | none
  | int (i : Int)
  | set (xs : List Int)
inductive ElIn (news : List (Addr × Obj)) : Value → El → Prop
  | none : ElIn news Value.none El.none
  | int (i : Int) (t : Tok) : ElIn news (Value.int i t) (El.int i)
  | set {a : Addr} {ws : List Value} {n : Nat} {xs : List Int} : (a, listOf ws.toArray n) ∈ news → IntsAre ws xs → ElIn news (Value.ref a) (El.set xs)
inductive ElsIn (news : List (Addr × Obj)) : List Value → List El → Prop
  | nil : ElsIn news [] []
  | cons {v : Value} {vs : List Value} {d : El} {ds : List El} : ElIn news v d → ElsIn news vs ds → ElsIn news (v :: vs) (d :: ds)
theorem ElIn.mono {news news' : List (Addr × Obj)} (hs : ∀ p ∈ news, p ∈ news') {v : Value} {d : El} (h : ElIn news v d) : ElIn news' v d := by
  cases h with
  | none => exact .none
  | int i t => exact .int i t
  | set h1 h2 => exact .set (hs _ h1) h2
theorem ElsIn.mono {news news' : List (Addr × Obj)} (hs : ∀ p ∈ news, p ∈ news') {vs : List Value} {ds : List El} (h : ElsIn news vs ds) : ElsIn news' vs ds := by
  induction h with
  | nil => exact .nil
  | cons h _ ih => exact .cons (h.mono hs) ih
theorem ElsIn.length {news : List (Addr × Obj)} {vs : List Value} {ds : List El} (h : ElsIn news vs ds) : vs.length = ds.length := by
  induction h with
  | nil => rfl
  | cons _ _ ih => rw [List.length_cons, List.length_cons, ih]
theorem ElsIn.append {news : List (Addr × Obj)} {vs us : List Value} {ds es : List El} (h : ElsIn news vs ds) (k : ElsIn news us es) : ElsIn news (vs ++ us) (ds ++ es) := by
  induction h with
  | nil => exact k
  | cons h _ ih => exact .cons h ih
theorem ElsIn.get {news : List (Addr × Obj)} {vs : List Value} {ds : List El} (h : ElsIn news vs ds) {i : Nat} {v : Value} (e : vs[i]? = some v) : ∃ d, ds[i]? = some d ∧ ElIn news v d := by
  induction h generalizing i with
  | nil => cases e
  | cons h _ ih =>
    cases i with
    | zero => cases e; exact ⟨_, rfl, h⟩
    | succ i => exact ih e

def DerIn (w : World) (news : List (Addr × Obj)) (x dx l : Addr) (vs : List Value) (els : List El) : Prop :=
  ∃ (t : Tok) (n : Nat), (x, instObj 847 dx) ∈ news ∧ (dx, dictOf [⟨PyData.keyHash w.params (Str.ofString "indexes"), .str (Str.ofString "indexes") t, .ref l⟩] 1) ∈ news ∧ (l, listOf vs.toArray n) ∈ news ∧ ElsIn news vs els

theorem DerIn.mono {w : World} {news news' : List (Addr × Obj)} (hs : ∀ p ∈ news, p ∈ news') {x dx l : Addr} {vs : List Value} {els : List El} (h : DerIn w news x dx l vs els) : DerIn w news' x dx l vs els := by
  obtain ⟨t, n, h1, h2, h3, h4⟩ := h
  exact ⟨t, n, hs _ h1, hs _ h2, hs _ h3, h4.mono hs⟩
theorem frC {h₀ h : Heap} {L : Addr} {m : Str → Option Value} (m' : Str → Option Value) (F : Fr h₀ L h m) (e : ∀ q, m' q = m q) : Fr h₀ L h m' := by
  have : m' = m := funext e
  rw [this]; exact F
theorem lk_cons (q a : Str) (v : Value) (r : List (Str × Value)) : List.lookup q ((a, v) :: r) = if q = a then some v else List.lookup q r := by
  rw [List.lookup_cons]
  by_cases h : q = a
  · simp [h]
  · rw [if_neg h]
    have : (q == a) = false := by simpa using h
    rw [this]
theorem lk_nil (q : Str) : List.lookup q ([] : List (Str × Value)) = none := rfl
theorem frK {h₀ h : Heap} {L : Addr} {m₁ : Str → Option Value} {xc xi : Str} {v1 v0 : Value} (ps : List (Str × Value)) (F : Fr h₀ L h (fun y => if y = xc then some v1 else if y = xi then some v0 else m₁ y)) (hps : ∀ p ∈ ps, m₁ p.1 = some p.2) :
    Fr h₀ L h (fun y => if y = xc then some v1 else if y = xi then some v0 else kstB m₁ ps y) :=
  frC _ F fun q => by rw [kstB_eq (m₁ := m₁) hps fun _ => rfl]
theorem frK1 {h₀ h : Heap} {L : Addr} {m₁ : Str → Option Value} {xc : Str} {v1 : Value} (ps : List (Str × Value)) (F : Fr h₀ L h (fun y => if y = xc then some v1 else m₁ y)) (hps : ∀ p ∈ ps, m₁ p.1 = some p.2) :
    Fr h₀ L h (fun y => if y = xc then some v1 else kstB m₁ ps y) :=
  frC _ F fun q => by rw [kstB_eq (m₁ := m₁) hps fun _ => rfl]
theorem frK0 {h₀ h : Heap} {L : Addr} {m₁ : Str → Option Value} (ps : List (Str × Value)) (F : Fr h₀ L h m₁) (hps : ∀ p ∈ ps, m₁ p.1 = some p.2) : Fr h₀ L h (fun y => kstB m₁ ps y) :=
  frC _ F fun q => kstB_eq (m₁ := m₁) hps fun _ => rfl
/-- a mark: the walk stops here -/
structure Stop (P : Prop) : Prop where
  out : P
/-- an assertion between two statements -/
def At (P : Shared → Prop) (s : Shared) : Prop := P s
theorem cut {M : Model} {A : Around} {E : Value → Shared → Prop} {s : Shared} {env : Env} {st : Stmt} {rest : List Stmt} {Q : Flow → Shared → Prop} (P : Shared → Prop)
    (h1 : wpAny M A (exec st env) (fun f s' => f = .next ∧ At P s') E s) (h2 : ∀ s', P s' → wpAny M A (execs rest env) Q E s') : wpAny M A (execs (st :: rest) env) Q E s :=
  wpAny_execs_cons (wpAny_mono h1 (fun f s' h => by obtain ⟨rfl, hp⟩ := h; exact h2 s' hp) fun _ _ e => e)
theorem cutM {M : Model} {A : Around} {E : Value → Shared → Prop} {s : Shared} {m : Sem Flow} {Q : Flow → Shared → Prop} (P : Shared → Prop)
    (h1 : wpAny M A m (fun f s' => f = .next ∧ At P s') E s) (h2 : ∀ s', P s' → Q .next s') : wpAny M A m Q E s :=
  wpAny_mono h1 (fun f s' h => by obtain ⟨rfl, hp⟩ := h; exact h2 s' hp) fun _ _ e => e
theorem cut2 {M : Model} {A : Around} {E : Value → Shared → Prop} {s : Shared} {env : Env} {st st2 : Stmt} {rest : List Stmt} {Q : Flow → Shared → Prop} (P : Shared → Prop)
    (h1 : wpAny M A (exec st env) (fun f s' => f = .next ∧ wpAny M A (exec st2 env) (fun f s' => f = .next ∧ At P s') E s') E s) (h2 : ∀ s', P s' → wpAny M A (execs rest env) Q E s') : wpAny M A (execs (st :: st2 :: rest) env) Q E s :=
  cut (fun s' => wpAny M A (exec st2 env) (fun f s' => f = .next ∧ At P s') E s') h1 fun _ h => cut P h h2
theorem cut3 {M : Model} {A : Around} {E : Value → Shared → Prop} {s : Shared} {env : Env} {st st2 st3 : Stmt} {rest : List Stmt} {Q : Flow → Shared → Prop} (P : Shared → Prop)
    (h1 : wpAny M A (exec st env) (fun f s' => f = .next ∧ wpAny M A (exec st2 env) (fun f s' => f = .next ∧ wpAny M A (exec st3 env) (fun f s' => f = .next ∧ At P s') E s') E s') E s) (h2 : ∀ s', P s' → wpAny M A (execs rest env) Q E s') :
    wpAny M A (execs (st :: st2 :: st3 :: rest) env) Q E s :=
  cut (fun s' => wpAny M A (exec st2 env) (fun f s' => f = .next ∧ wpAny M A (exec st3 env) (fun f s' => f = .next ∧ At P s') E s') E s') h1 fun _ h => cut2 P h h2
theorem set_any {prog : Program} {w : World} {A : Around} {E : Value → Shared → Prop} {s : Shared} {h₀ : Heap} {L D : Addr} {m : Str → Option Value} {news pre post : List (Addr × Obj)} {us : List Value} {n : Nat} {k : Int} {t : Tok} {v : Value} {Q : Unit → Shared → Prop}
    (F : Fr h₀ L s.heap m) (N : News h₀ L s.heap news) (e : news = pre ++ (D, listOf (List.toArray us) n) :: post) (h1 : ∀ p ∈ pre, p.1 ≠ D) (h2 : ∀ p ∈ post, p.1 ≠ D) (h0 : 0 ≤ k) (hk : k < us.length) (hfit : k < 2 ^ 63)
    (h : ∀ h', Fr h₀ L h' m → News h₀ L h' (pre ++ (D, listOf (List.toArray (us.set k.toNat v)) n) :: post) → Q () { s with heap := h' }) :
    wpAny (model prog w) A (setItem (.ref D) (.int k t) v) Q E s := by
  subst e
  have z := N (D, listOf us.toArray n) (List.mem_append.mpr (.inr (.head _)))
  have hs : us.toArray.size = us.length := List.size_toArray ..
  refine ki_setAt z.1 h0 hfit (by omega) (h _ (F.change (Heap.SameBut.update ..) z.2.1 z.2.2) (ki_turn _ N h1 h2 ?_ ?_))
  · show us.toArray.setIfInBounds k.toNat v = (us.set k.toNat v).toArray
    apply Array.toList_inj.mp
    simp
  · simp

theorem isi_list {prog : Program} {w : World} {A : Around} {E : Value → Shared → Prop} {s : Shared} {h₀ : Heap} {L a : Addr} {news : List (Addr × Obj)} {its : Array Value} {n : Nat} {Q : Value → Shared → Prop}
    (N : News h₀ L s.heap news) (hm : (a, listOf its n) ∈ news) (h : Q (.bool true) s) : wpAny (model prog w) A (call (.builtin "isinstance") [.ref a, .type "list"]) Q E s :=
  IsiPair.isList_list ⟨_, (N _ hm).1, rfl, n, rfl⟩ (fun _ _ e => e) h
theorem len_led {prog : Program} {w : World} {A : Around} {E : Value → Shared → Prop} {s : Shared} {h₀ : Heap} {L a : Addr} {news : List (Addr × Obj)} {vs : List Value} {n k : Nat} {Q : Value → Shared → Prop}
    (N : News h₀ L s.heap news) (hm : (a, listOf (List.toArray vs) n) ∈ news) (hk : vs.length = k) (hb : (k : Int) < 2 ^ 63) (h : Q (.int k (s.toks + 1)) { s with toks := s.toks + 1 + 1 }) :
    wpAny (model prog w) A (call (.builtin "len") [.ref a]) Q E s :=
  len_list (items := vs.toArray) ⟨_, (N _ hm).1, rfl, n, rfl⟩ (by rw [List.size_toArray, hk]; exact hb) (by rw [List.size_toArray, hk]; exact h)
theorem led_eq {h₀ h : Heap} {L l : Addr} {news : List (Addr × Obj)} {us vs : List Value} {n n' : Nat} (N : News h₀ L h news) (h1 : (l, listOf (List.toArray us) n) ∈ news) (h2 : (l, listOf (List.toArray vs) n') ∈ news) : us = vs := by
  have e := (N _ h1).1
  rw [(N _ h2).1] at e
  injection e with e
  injection e with _ _ e3 _
  injection e3 with e4 _
  exact (by simpa using congrArg Array.toList e4.symm : us = vs)
theorem notin_led {prog : Program} {w : World} {A : Around} {E : Value → Shared → Prop} {s : Shared} {h₀ : Heap} {L a : Addr} {news : List (Addr × Obj)} {vs : List Value} {ns : List Int} {n : Nat} {k : Int} {t : Tok} {Q : Value → Shared → Prop}
    (N : News h₀ L s.heap news) (hm : (a, listOf (List.toArray vs) n) ∈ news) (hi : IntsAre vs ns) (h : Q (.bool (!(ns.any (· == k)))) s) :
    wpAny (model prog w) A (compareOp .NotIn (.int k t) (.ref a)) Q E s := notin_list_ints ⟨_, (N _ hm).1, rfl, n, rfl⟩ hi h
theorem index_led {prog : Program} {w : World} {A : Around} {E : Value → Shared → Prop} {s : Shared} {h₀ : Heap} {L a : Addr} {news : List (Addr × Obj)} {vs : List Value} {ns : List Int} {n : Nat} {k : Int} {t : Tok} {Q : Value → Shared → Prop}
    (N : News h₀ L s.heap news) (hm : (a, listOf (List.toArray vs) n) ∈ news) (hi : IntsAre vs ns) (hlay : PyData.layable0 (.list (ns.map .int)) = true) (hk : k ∈ ns) (h : Q (.int (ns.idxOf k : Nat) s.toks) { s with toks := s.toks + 1 }) :
    wpAny (model prog w) A (call (.builtin "list.index") [.ref a, .int k t]) Q E s := index_list_ints ⟨_, (N _ hm).1, rfl, n, rfl⟩ hi hlay hk h
theorem nameG_B {M : Model} {A : Around} {E : Value → Shared → Prop} {s : Shared} {h₀ : Heap} {L : Addr} {m : Str → Option Value} {env : Env} {K : Frag} {mg mb : Str → Option Value} {p : Program} {loose : List Str} {x : Str} {pos : Pos} {v : Value} {Q : Value → Shared → Prop} (F : Fr h₀ L s.heap m) (X : K.In h₀) (T : TopRead p loose mg mb h₀)
    (e : nsIn K mainGlobals x = some none) (hv : bootBuiltins x = some v) (hn : x ≠ "__name__") (h : Q v s) (hg : env.globals = mainGlobals) (hb : env.builtins = builtinsNs) (hk : env.scope.kind = .function) (hx : env.kindOf x = some .globalImplicit) (hd : (x == ("__debug__" : Str)) = false) :
    wpAny M A (eval (.Name x pos) env) Q E s :=
  Name_function_global hk hx (loadGlobal_builtin (env := env) (by rw [hg]; exact T.g.keeps F.keep) (mg_none_of X T.g e) (by rw [hb]; exact T.b.keeps F.keep) ((T.builtins x hn).trans hv) h) hd
theorem noneIn_led {prog : Program} {w : World} {A : Around} {E : Value → Shared → Prop} {s : Shared} {h₀ : Heap} {L a : Addr} {news : List (Addr × Obj)} {vs : List Value} {ns : List Int} {n : Nat} {Q : Value → Shared → Prop}
    (N : News h₀ L s.heap news) (hm : (a, listOf (List.toArray vs) n) ∈ news) (hi : IntsAre vs ns) (h : Q (.bool false) s) :
    wpAny (model prog w) A (compareOp .In .none (.ref a)) Q E s := by
  have hl : s.heap.IsList a vs.toArray := ⟨_, (N _ hm).1, rfl, n, rfl⟩
  refine SeqAt.in_listAt (fun _ => false) hl (fun y hy => ?_) ?_
  · have hy' : y ∈ vs := by simpa using hy
    obtain ⟨i, hi2⟩ := List.getElem?_of_mem hy'
    have hlt : i < ns.length := by
      have := (List.getElem?_eq_some_iff.mp hi2).1
      rw [← hi.length]; exact this
    obtain ⟨t, ht⟩ := hi.get i ns[i] (by simp [hlt])
    rw [hi2] at ht
    rw [Option.some.inj ht]
    exact SeqAt.EqAt.int_none _ _
  · have e : vs.toArray.any (fun _ => false) = false := by simp
    rw [e]; exact h
theorem ints_mem {ws : List Value} {xs : List Int} (h : IntsAre ws xs) {v : Value} (hv : v ∈ ws) : ∃ i t, i ∈ xs ∧ v = .int i t := by
  induction h with
  | nil => cases hv
  | cons n t _ ih =>
    rcases List.mem_cons.mp hv with rfl | hv
    · exact ⟨n, t, List.mem_cons_self .., rfl⟩
    · obtain ⟨i, u, h1, h2⟩ := ih hv
      exact ⟨i, u, List.mem_cons_of_mem _ h1, h2⟩
theorem callWith_MKW {M : Model} {A : Around} {E : Value → Shared → Prop} {s : Shared} {K : Frag} {env : Env} {pos : Pos} {first : List Value} {Q : Value → Shared → Prop} {h₀ : Heap} {L : Addr} {news : List (Addr × Obj)} {q g : Addr} {self : Value} {e : Expr} {rest : List Expr} {kws : List Keyword} (_X : K.In h₀) (_N : News h₀ L s.heap news) (_q : (q, methodObj (.ref g) self) ∈ news) (hf : fnIn K g = true)
    (hall : (backToKw pos (keywordEach kws env)).all (·.1.isSome) = true)
    (h : wpAny M A (spliced (backTo pos (starEach (e :: rest) env))) (fun vs s₁ => wpAny M A (evalAll ((backToKw pos (keywordEach kws env)).map (·.2)))
      (fun ks s₂ => MethP K q g self s₂.heap ∧ wpAny M A (call (.ref q) (first ++ vs) (((backToKw pos (keywordEach kws env)).filterMap (·.1)).zip ks)) Q E s₂) E s₁) E s)
    (hplain : ((backTo pos (starEach (e :: rest) env)).any (·.1) || (backToKw pos (keywordEach kws env)).any (·.1.isNone)) = false := by rfl) (he : starEach (e :: rest) env = (false, eval e env) :: starEach rest env := by rfl) :
    wpAny M A (callWith pos (.ref q) first (backTo pos (starEach (e :: rest) env)) (backToKw pos (keywordEach kws env))) Q E s :=
  callWith_of hplain (keeps_M hf) (evalArgs_kw2 hall h he)
theorem mem_ap {q : Addr × Obj} {c news own : List (Addr × Obj)} (h : q ∈ news) : q ∈ c ++ (news ++ own) := List.mem_append.mpr (.inr (List.mem_append.mpr (.inl h)))

abbrev Ret (h₀ : Heap) (L : Addr) (m : Str → Option Value) (news : List (Addr × Obj)) (s : Shared) (R : Result → Shared → Prop) (Out : List (Addr × Obj) → Value → Prop) : Prop :=
  ∀ r tl h' tk', Fr h₀ L h' m → News h₀ L h' (tl ++ news) → (∀ p ∈ tl, ∀ q ∈ news, p.1 ≠ q.1) → Out (tl ++ news) r → R (.ok (.ret r)) { s with heap := h', toks := tk' }

theorem ret_any {h₀ : Heap} {L : Addr} {m : Str → Option Value} {news : List (Addr × Obj)} {s : Shared} {R : Result → Shared → Prop} {Out : List (Addr × Obj) → Value → Prop} (hret : Ret h₀ L m news s R Out)
    (mono : ∀ l l' r, (∀ p ∈ l, p ∈ l') → Out l r → Out l' r) {r : Value} {tl : List (Addr × Obj)} {h' : Heap} {tk' : Nat} (F : Fr h₀ L h' m) (N : News h₀ L h' (tl ++ news)) (o : Out (tl ++ news) r) : R (.ok (.ret r)) { s with heap := h', toks := tk' } := by
  have key : ∀ p ∈ tl ++ news, p ∈ tl.filter (fun p => decide (p.1 ∉ news.map (·.1))) ++ news := by
    intro p hp
    rcases List.mem_append.mp hp with h | h
    · by_cases hq : p.1 ∈ news.map (·.1)
      · obtain ⟨q, hq1, hq2⟩ := List.mem_map.mp hq
        have e1 := (N p hp).1
        have e2 := (N q (List.mem_append.mpr (.inr hq1))).1
        rw [← hq2, e2] at e1
        have e3 : q = p := Prod.ext hq2 (Option.some.inj e1)
        exact List.mem_append.mpr (.inr (e3 ▸ hq1))
      · exact List.mem_append.mpr (.inl (List.mem_filter.mpr ⟨h, by simpa using hq⟩))
    · exact List.mem_append.mpr (.inr h)
  refine hret r _ h' tk' F (fun p hp => N p ?_) ?_ (mono _ _ _ key o)
  · rcases List.mem_append.mp hp with h | h
    · exact List.mem_append.mpr (.inl (List.mem_filter.mp h).1)
    · exact List.mem_append.mpr (.inr h)
  · intro p hp q hq e
    have := (List.mem_filter.mp hp).2
    simp only [decide_eq_true_eq] at this
    exact this (List.mem_map.mpr ⟨q, hq, e.symm⟩)
/-- the call of a def of the top, over any ledger -/
def Con (w : World) (f : Addr) (k : Nat) (Pre : Heap → List (Addr × Obj) → Args → Prop) (Out : List (Addr × Obj) → Value → Prop) : Prop :=
  ∀ (loose : List Str) (mean : ExcName → Option Value) (mg mb : Str → Option Value) (dp un : Nat) (gd : Option (List Code)) (cn : Str) (cs : Scope) (a : Addr) (ccd : Value) (cl : List (Str × Addr)) (outer : List Env) (A₀ : Around) (base h₀ : Heap) (L : Addr) (m : Str → Option Value) (news : List (Addr × Obj)) (s : Shared)
    (R : Result → Shared → Prop) (args : Args) {vw : Program},
    Below A₀ base outer h₀ → Fr h₀ L s.heap m → (pre.heap_1 w.params).In h₀ → News h₀ L s.heap news → Top vw loose mean mg mb h₀ → cs.kind = .function →
    Pre base news args → dp + k < recursionLimit → un + 8 * k < cLine → Ret h₀ L m news s R Out →
    codeAny (model PySem.Challenge.rw_ai0021_01.row.prog w) (ktrTop dp un gd cn cs L a ccd cl outer) (.call (.ref f) args) R s
end Mine
namespace Mine
def elV : Option Int → El
  | .none => .none
  | .some i => .int i
def fillE (idx : Option Int) (b : Nat) : El → El
  | .none => elV idx
  | .int i => .int i
  | .set xs => .int (xs.getD b 0)
/-- an argument that is None or an int -/
inductive OI : Value → Option Int → Prop
  | none : OI Value.none none
  | int (i : Int) (t : Tok) : OI (Value.int i t) (some i)
def fillPre (w : World) (els : List El) (idx br : Option Int) (_ : Heap) (news : List (Addr × Obj)) (args : Args) : Prop :=
  ∃ x dx l vs vi vb, DerIn w news x dx l vs els ∧ OI vi idx ∧ OI vb br ∧ (args = ⟨[.ref x, vi, vb], []⟩ ∨ (br = none ∧ args = ⟨[.ref x, vi], []⟩))
def listOut (es : List El) (nw : List (Addr × Obj)) (r : Value) : Prop := ∃ D us n, r = .ref D ∧ (D, listOf (List.toArray us) n) ∈ nw ∧ ElsIn nw us es
def brOk (br : Option Int) (els : List El) : Prop := ∀ xs, El.set xs ∈ els → 0 ≤ br.getD 0 ∧ br.getD 0 < (xs.length : Int) ∧ xs.length ≤ 1000
local macro_rules | `(tactic| k_mem) => `(tactic| first | assumption | (refine List.mem_cons_of_mem _ ?_; k_mem) | (refine List.mem_append.mpr (Or.inl ?_); k_mem) | (refine List.mem_append.mpr (Or.inr ?_); k_mem) | exact List.mem_cons_self ..)
local macro_rules | `(tactic| walk_at "call builtin:isinstance") => `(tactic| (k_here; (with_reducible show wpAny _ _ (call (.builtin "isinstance") [Value.ref _, Value.type "list"]) _ _ _); k_dflt (refine' isi_list ?N ?m ?_; (case N => k_asm); (case m => k_mem); k_whole)))
local macro_rules | `(tactic| walk_at "call builtin:len") => `(tactic| (k_here; (with_reducible show wpAny _ _ (call (.builtin "len") [Value.ref _]) _ _ _); k_dflt (refine' len_led ?N ?m ?e ?b ?_; (case N => k_asm); (case m => k_mem); (case e => first | assumption | exact rfl); (case b => omega); k_whole)))
local macro_rules | `(tactic| walk_at "And") => `(tactic| ((with_reducible show Flow.next = Flow.next ∧ _); refine ⟨rfl, ?_⟩))
set_option maxRecDepth 100000 in
set_option maxHeartbeats 8000000 in
theorem fill_con (w : World) (els : List El) (idx br : Option Int) (hlen : els.length ≤ 1000) (hidx : ∀ i, idx = some i → 0 ≤ i ∧ i < 1000) (hbr : brOk br els) : Con w 781 8 (fillPre w els idx br) (listOut (els.map (fillE idx (br.getD 0).toNat))) := by
  unfold Con
  k_fill
  intro loose mean mg mb dp un gd cn cs a ccd cl outer A₀ base h₀ L m news s R args vw B F X N T hk hpre hdd hu hret
  obtain ⟨x, dx, l, vs, vi, vb, hder, hvi, hvb, hargs⟩ := hpre
  obtain ⟨td, n, hx, hdx, hl, hels⟩ := hder
  refine' code_def ?k1 ?k2 ?k3 ?k4 ?k5 ?kA ?kF ?kK ?k6 ?k7 ?k8 ?k9 ?kB ?_ ?c2 ?c3 ?c4 ?c5
  (case kA => exact rfl); (case kF => exact rfl); (case kK => assumption); (case k1 => exact B); (case k2 => exact F); (case k3 => exact X); (case k4 => exact N); (case k5 => exact T); (case k6 => k_is); (case k7 => k_is); (case k8 => show dp < _; omega)
  (case k9 =>
    rcases hargs with rfl | ⟨rfl, rfl⟩
    · exact binds_K (by k_in) rfl (by k_is) rfl rfl rfl
    · cases hvb
      exact binds_K (by k_in) rfl (by k_is) rfl rfl rfl); (case c5 => decide); (case kB => exact locs rfl); (case c2 => exact rfl); (case c3 => exact rfl); (case c4 => exact rfl)
  clear hargs
  intro g' L' h' FG' F' N' B' X' T'
  replace F' := frC (fun q => if q = Str.ofString "branch_index" then some vb else if q = Str.ofString "idx" then some vi else if q = Str.ofString "self" then some (.ref x) else none) F' fun q => by
    show _ = List.lookup q [(Str.ofString "branch_index", vb), (Str.ofString "idx", vi), (Str.ofString "self", .ref x)]
    simp only [lk_cons, lk_nil]
  refine cut (fun s' => s' = { s with heap := h', toks := s'.toks }) ?_ fun s' hs' => ?_
  · cases hvi with
    | none => k_steps; exact rfl
    | int i t =>
      have := hidx i rfl
      k_steps
      exact rfl
  rw [hs']
  generalize s'.toks = tk1
  clear hs' s'
  have hvl : vs.length ≤ 1000 := by rw [hels.length]; exact hlen
  refine cut (fun s' => ∃ D nd h2 tk, s' = { s with heap := h2, toks := tk } ∧ Fr g' L' h2 (fun q => if q = Str.ofString "arr" then some (.ref D) else if q = Str.ofString "branch_index" then some vb else if q = Str.ofString "idx" then some vi else if q = Str.ofString "self" then some (.ref x) else none) ∧ News g' L' h2 ((D, listOf (List.toArray vs) nd) :: news) ∧ (∀ p ∈ news, p.1 ≠ D)) ?_ fun s' hs' => ?_
  · k_steps
    refine compA_copy (by rfl) hl (by show _ ≤ 2 ^ 24; omega) F' N' (by rfl) (by rfl) (by rfl) fun D n h' tk F2 N2 hD => ?_
    exact ⟨rfl, ⟨D, n, h', tk, rfl, F2, N2, hD⟩⟩
  obtain ⟨D, nd, h2, tk2, rfl, F2, N2, hD⟩ := hs'
  refine cut (fun s' => ∃ us n h3 tk m3, s' = { s with heap := h3, toks := tk } ∧ Fr g' L' h3 m3 ∧ m3 (Str.ofString "arr") = some (.ref D) ∧ News g' L' h3 ((D, listOf (List.toArray us) n) :: news) ∧ ElsIn news us (els.map (fillE idx (br.getD 0).toNat))) ?_ fun s' hs' => ?_
  · refine For_en g' (by rfl) (by rfl) (by rfl) ?_ (fun _ => rfl)
    k_steps
    refine call_en (fun i m nw => (m (Str.ofString "arr") = some (.ref D) ∧ m (Str.ofString "branch_index") = some vb ∧ m (Str.ofString "idx") = some vi) ∧ ∃ done n, nw = (D, listOf (List.toArray (done ++ vs.drop i)) n) :: news ∧ done.length = i ∧ ElsIn news done ((els.take i).map (fillE idx (br.getD 0).toNat)))
      (by rfl) (List.mem_cons_self ..) F2 N2 ⟨⟨rfl, rfl, rfl⟩, [], nd, rfl, rfl, .nil⟩ ?_ ?_ ?_
    · rintro i m' nw ⟨_, done, n, rfl, rfl, hE⟩
      refine ⟨_, n, List.mem_cons_self .., ?_⟩
      have e1 := hE.length
      have e2 := hels.length
      simp only [List.length_map, List.length_take] at e1
      rw [List.length_append, List.length_drop]
      omega
    · rintro i v t m₁ nw h tk own us nn hi hmem hv hadr hown ⟨⟨ha, hb, hc⟩, done, n4, rfl, hdl, hE⟩ F5 N5
      have hus : us = done ++ vs.drop i := by
        rcases List.mem_cons.mp hmem with e | e
        · injection e with _ e2
          injection e2 with _ _ e3 _
          injection e3 with e4 _
          simpa using congrArg Array.toList e4
        · exact absurd rfl (hD _ e)
      have hvi' : vs[i]? = some v := by
        rw [hus, List.getElem?_append_right (by omega), List.getElem?_drop] at hv
        simpa [hdl] using hv
      have hD5 : ∀ p ∈ news ++ own, p.1 ≠ D := fun p hp => by
        rcases List.mem_append.mp hp with hp | hp
        · exact hD p hp
        · exact hown p hp D (by simp)
      obtain ⟨el, hel, hin⟩ := hels.get hvi'
      replace F5 := frK [(Str.ofString "arr", .ref D), (Str.ofString "branch_index", vb), (Str.ofString "idx", vi)] F5 (by
        intro p hp
        simp only [List.mem_cons, List.not_mem_nil, or_false] at hp
        rcases hp with rfl | rfl | rfl <;> assumption)
      rw [List.cons_append] at N5
      clear ha hb hc hv hmem
      clear F2 N2
      have hlu : (done ++ vs.drop i).length = vs.length := by
        rw [List.length_append, List.length_drop]; omega
      have hi63 : vs.length < 2 ^ 63 := by omega
      have fin : ∀ (v' : Value) (h' : Heap) (tk' n' : Nat) (m' : Str → Option Value), ElIn news v' (fillE idx (br.getD 0).toNat el) → Fr g' L' h' m' → (m' (Str.ofString "arr") = some (.ref D) ∧ m' (Str.ofString "branch_index") = some vb ∧ m' (Str.ofString "idx") = some vi) →
          News g' L' h' ([] ++ (D, listOf (List.toArray ((done ++ vs.drop i).set i v')) n') :: (news ++ own)) →
          InvEndN g' L' (fun m nw => (m (Str.ofString "arr") = some (.ref D) ∧ m (Str.ofString "branch_index") = some vb ∧ m (Str.ofString "idx") = some vi) ∧ ∃ done n, nw = (D, listOf (List.toArray (done ++ vs.drop (i + 1))) n) :: news ∧ done.length = i + 1 ∧ ElsIn news done ((els.take (i + 1)).map (fillE idx (br.getD 0).toNat))) own (((D, listOf (List.toArray vs) nd) :: news).map (·.1)) { s with heap := h, toks := tk } { s with heap := h', toks := tk' } := by
        intro v' h' tk' n' m' hv' F' hm' N'
        have e : (done ++ vs.drop i).set i v' = (done ++ [v']) ++ vs.drop (i + 1) := by
          rw [List.set_append_right i v' (by omega), hdl, Nat.sub_self, List.drop_eq_getElem_cons hi, List.set_cons_zero, List.append_assoc, List.singleton_append]
        rw [e] at N'
        refine InvEndN.intro F' N' (nx := (D, listOf (List.toArray ((done ++ [v']) ++ vs.drop (i + 1))) n') :: news) ⟨hm', done ++ [v'], n', rfl, by simp [hdl], ?_⟩ rfl ?_ ?_
        · rw [List.take_add_one, hel, List.map_append]
          exact hE.append (.cons hv' .nil)
        · intro p hp
          rcases List.mem_cons.mp hp with rfl | hp
          · exact List.mem_cons_self ..
          · exact List.mem_cons_of_mem _ (List.mem_append.mpr (.inl hp))
        · intro p hp
          exact List.mem_cons_of_mem _ (List.mem_append.mpr (.inr hp))
      have same : ∀ w : Value, vs[i]? = some w → (done ++ vs.drop i).set i w = done ++ vs.drop i := by
        intro w hw
        rw [List.set_append_right i w (by omega), hdl, Nat.sub_self, List.drop_eq_getElem_cons hi, List.set_cons_zero]
        rw [List.getElem?_eq_getElem hi] at hw
        rw [Option.some.inj hw]
      cases hin with
      | none =>
        k_steps
        refine set_any (pre := []) F5 N5 rfl (fun _ h => nomatch h) hD5 (by omega) (by rw [hlu]; omega) (by omega) fun h' F6 N6 => ?_
        clear F5 N5
        k_steps
        refine fin vi _ _ _ _ ?_ F6 ⟨rfl, rfl, rfl⟩ N6
        cases hvi with
        | none => exact .none
        | int j t => exact .int j t
      | int j t =>
        k_steps
        refine fin (.int j t) _ _ n4 _ (.int j t) F5 ⟨rfl, rfl, rfl⟩ ?_
        rw [same _ hvi']
        exact N5
      | @set aS wS nS xS h1 h2 =>
        have hb2 := hbr xS (List.mem_of_getElem? hel)
        have hl2 := h2.length
        cases hvb with
        | none =>
          simp only [Option.getD_none] at hb2
          k_steps
          refine set_any (pre := []) F5 N5 rfl (fun _ h => nomatch h) hD5 (by omega) (by rw [hlu]; omega) (by omega) fun h' F6 N6 => ?_
          clear F5 N5
          k_steps
          exact fin _ _ _ _ _ (.int _ _) F6 ⟨rfl, rfl, rfl⟩ N6
        | int j t =>
          simp only [Option.getD_some] at hb2
          k_steps
          refine set_any (pre := []) F5 N5 rfl (fun _ h => nomatch h) hD5 (by omega) (by rw [hlu]; omega) (by omega) fun h' F6 N6 => ?_
          clear F5 N5
          k_steps
          exact fin _ _ _ _ _ (.int _ _) F6 ⟨rfl, rfl, rfl⟩ N6
    · rintro m₁ nw h tk ⟨⟨ha, _, _⟩, done, n4, rfl, hdl, hE⟩ F5 N5
      refine ⟨rfl, done, n4, h, tk, m₁, rfl, F5, ha, ?_, ?_⟩
      · rw [List.drop_length, List.append_nil] at N5
        exact N5
      · rw [hels.length, List.take_length] at hE
        exact hE
  · obtain ⟨us, n3, h3, tk3, m3, rfl, F3, hm3, N3, hE⟩ := hs'
    replace F3 := frC (fun q => if q = Str.ofString "arr" then some (.ref D) else m3 q) F3 fun q => by
      by_cases h1 : q = Str.ofString "arr"
      · simp [h1, hm3]
      · simp [h1]
    clear F2 N2
    k_steps
    exact hret (.ref D) [(D, listOf (List.toArray us) n3)] _ _ (by k_asm) (by k_asm) (fun p hp q hq => by rw [List.mem_singleton.mp hp]; exact Ne.symm (hD q hq)) ⟨D, us, n3, rfl, List.mem_cons_self .., hE.mono fun p hp => List.mem_cons_of_mem _ hp⟩
end Mine
namespace Mine
def pNone : Value → Bool
  | .none => true
  | _ => false
def pRef : Value → Bool
  | .ref _ => true
  | _ => false
def El.isNone : El → Bool
  | .none => true
  | _ => false
def El.isSet : El → Bool
  | .set _ => true
  | _ => false
theorem els_none {news : List (Addr × Obj)} {vs : List Value} {els : List El} (h : ElsIn news vs els) : (vs.filter pNone).length = (els.filter El.isNone).length := by
  induction h with
  | nil => rfl
  | cons h _ ih =>
    cases h with
    | none => exact congrArg (· + 1) ih
    | int i t => exact ih
    | set h1 h2 => exact ih
theorem els_ref {news : List (Addr × Obj)} {vs : List Value} {els : List El} (h : ElsIn news vs els) : (vs.filter pRef).length = (els.filter El.isSet).length := by
  induction h with
  | nil => rfl
  | cons h _ ih =>
    cases h with
    | none => exact ih
    | int i t => exact ih
    | set h1 h2 => exact congrArg (· + 1) ih
def initPre (l : Addr) (vs : List Value) (els : List El) (_ : Heap) (news : List (Addr × Obj)) (args : Args) : Prop :=
  ∃ n, (l, listOf (List.toArray vs) n) ∈ news ∧ ElsIn news vs els ∧ args = ⟨[.ref l], []⟩
def initOut (w : World) (l : Addr) (vs : List Value) (els : List El) (nw : List (Addr × Obj)) (r : Value) : Prop := ∃ x dx, r = .ref x ∧ DerIn w nw x dx l vs els
local macro_rules | `(tactic| k_mem) => `(tactic| first | assumption | (refine List.mem_cons_of_mem _ ?_; k_mem) | (refine List.mem_append.mpr (Or.inl ?_); k_mem) | (refine List.mem_append.mpr (Or.inr ?_); k_mem) | exact List.mem_cons_self ..)
local macro_rules | `(tactic| walk_at "call builtin:isinstance") => `(tactic| (k_here; (with_reducible show wpAny _ _ (call (.builtin "isinstance") [Value.ref _, Value.type "list"]) _ _ _); k_dflt (refine' isi_list ?N ?m ?_; (case N => k_asm); (case m => k_mem); k_whole)))
local macro_rules | `(tactic| walk_at "call builtin:len") => `(tactic| (k_here; (with_reducible show wpAny _ _ (call (.builtin "len") [Value.ref _]) _ _ _); k_dflt (refine' len_led ?N ?m ?e ?b ?_; (case N => k_asm); (case m => k_mem); (case e => first | assumption | exact rfl); (case b => omega); k_whole)))
local macro_rules | `(tactic| walk_at "compareOp In none ref") => `(tactic| (k_here; k_dflt (refine' noneIn_led ?N ?m ?i ?_; (case N => k_asm); (case m => k_mem); (case i => assumption); k_whole)))
local macro_rules | `(tactic| walk_at "And") => `(tactic| ((with_reducible show Flow.next = Flow.next ∧ _); refine ⟨rfl, ?_⟩))
local macro_rules | `(tactic| walk_at "eval Name") => `(tactic| (k_here; k_inBlock; (with_reducible rename Fr _ _ _ _ => kF); k_dflt (refine' nameG_B kF ?k1 ?k2 ?k3 ?kv ?kn ?_ ?k4 ?kb ?k5 ?k6 ?k7; (case k4 => rfl); (case kb => rfl); (case k5 => rfl); (case k6 => rfl); (case k7 => decide); (case k1 => k_asm); (case k2 => k_asm); (case k3 => k_is); (case kv => boot_fast); (case kn => decide); k_whole)))
set_option maxRecDepth 100000 in
set_option maxHeartbeats 8000000 in
theorem init_con (w : World) (l : Addr) (vs : List Value) (els : List El) (hlen : els.length ≤ 1000) (h1 : (els.filter El.isNone).length ≤ 1) (h2 : (els.filter El.isSet).length ≤ 1) : Con w 847 8 (initPre l vs els) (initOut w l vs els) := by
  unfold Con
  k_fill
  intro loose mean mg mb dp un gd cn cs a ccd cl outer A₀ base h₀ L m news s R args vw B F X N T hk hpre hdd hu hret
  obtain ⟨n, hl, hels, rfl⟩ := hpre
  have e1 := hels.length
  have e2 := els_none hels
  have e3 := els_ref hels
  refine make_K F N (X.keeps F.keep) (C := 847) (fI := 767) (by k_is) (by k_is) (by with_unfolding_all k_is) fun x dx h1' F1 N1 l1 l2 => ?_
  refine' code_def ?k1 ?k2 ?k3 ?k4 ?k5 ?kA ?kF ?kK ?k6 ?k7 ?k8 ?k9 ?kB ?_ ?c2 ?c3 ?c4 ?c5
  (case kA => exact rfl); (case kF => exact rfl); (case kK => assumption); (case k1 => exact B); (case k2 => exact F1); (case k3 => exact X); (case k4 => exact N1); (case k5 => exact T); (case k6 => k_is); (case k7 => k_is); (case k8 => show dp + 1 < _; omega)
  (case k9 => exact binds_K (by k_in) rfl (by k_is) rfl rfl rfl); (case c5 => decide); (case kB => exact locs rfl); (case c2 => exact rfl); (case c3 => exact rfl); (case c4 => exact rfl)
  intro g' L' h' FG' F' N' B' X' T'
  replace F' := frC (fun q => if q = Str.ofString "indexes" then some (Value.ref l) else if q = Str.ofString "self" then some (Value.ref x) else none) F' fun q => by
    show _ = List.lookup q [(Str.ofString "indexes", Value.ref l), (Str.ofString "self", Value.ref x)]
    simp only [lk_cons, lk_nil]
  clear N1 F1
  have hvin : ∀ v ∈ vs, ∃ e, ElIn news v e := fun v hv => by
    obtain ⟨i, hi⟩ := List.getElem?_of_mem hv
    obtain ⟨e, _, he⟩ := hels.get hi
    exact ⟨e, he⟩
  k_steps
  refine comp_pick pNone (by rfl) (by k_mem) (by show _ ≤ 2 ^ 24; omega) F' N' (by rfl) (by rfl) (by rfl) ?_ fun D n h' tk F2 N2 hD => ?_
  · intro C v s₂ m₂ E' hv hn hm hk2
    have F3 := F'.keeps hk2
    have N3 := N'.grown hk2
    obtain ⟨e, he⟩ := hvin v hv
    cases he with
    | none =>
      k_steps
      all_goals exact ⟨_, _, rfl, fun _ _ e => e⟩
    | int j t =>
      k_steps
      all_goals exact ⟨_, _, rfl, fun _ _ e => e⟩
    | set h3 h4 =>
      k_steps
      all_goals exact ⟨_, _, rfl, fun _ _ e => e⟩
  · clear F' N'
    k_steps
    refine comp_pick pRef (by rfl) (by k_mem) (by show _ ≤ 2 ^ 24; omega) F2 N2 (by rfl) (by rfl) (by rfl) ?_ fun D2 n2 h2' tk2 F4 N4 hD2 => ?_
    · intro C v s₂ m₂ E' hv hn hm hk2
      have F3 := F2.keeps hk2
      have N3 := N2.grown hk2
      obtain ⟨e, he⟩ := hvin v hv
      cases he with
      | none =>
        k_steps
        all_goals exact ⟨_, _, rfl, fun _ _ e => e⟩
      | int j t =>
        k_steps
        all_goals exact ⟨_, _, rfl, fun _ _ e => e⟩
      | set h3 h4 =>
        k_steps
        all_goals exact ⟨_, _, rfl, fun _ _ e => e⟩
    · clear F2 N2
      k_steps
      have hx1 : ∀ p ∈ news, p.1 ≠ dx := fun p hp => Nat.ne_of_lt (l1 p hp)
      refine set_dict (es := []) (n := 0) F4 X' N4 (InstAt.of_news (C := 847) (dx := dx) (sl := #[]) N4 (by k_mem) (by k_mem)) rfl (by k_is) (by k_is) (by k_is) (by k_is) rfl (by k_put)
        (Upd.tail (Ne.symm (hD2 (dx, dictOf [] 0) (by k_mem))) (Upd.tail (Ne.symm (hD (dx, dictOf [] 0) (by k_mem))) (Upd.tail (Nat.ne_of_gt l2) (Upd.head hx1)))) (by show 1 ≤ 1000; decide) fun h5 F5 N5 => ?_
      clear F4 N4
      k_steps
      refine ret_any hret (fun l l' r hs ho => ?_) (tl := [_, _, _, _]) (by k_asm) (by k_asm) ?_
      · obtain ⟨x, dx, e, hd⟩ := ho
        exact ⟨x, dx, e, hd.mono hs⟩
      · exact ⟨x, dx, rfl, _, _, List.mem_cons_of_mem _ (List.mem_cons_of_mem _ (List.mem_cons_self ..)), List.mem_cons_of_mem _ (List.mem_cons_of_mem _ (List.mem_cons_of_mem _ (List.mem_cons_self ..))), List.mem_append.mpr (.inr hl), hels.mono fun p hp => List.mem_append.mpr (.inr hp)⟩
end Mine
namespace Mine
def menu : List (List Int) := [[0, 1], [2, 0], [1, 3, 4], [4, 0, 2]]
def El.ok : El → Prop
  | .none => True
  | .int i => 0 ≤ i ∧ i < 5
  | .set xs => xs ∈ menu
def digit (i : Int) : Str := ⟨#[48 + i.toNat]⟩
def pc : El → Str
  | .none => ⟨#[42]⟩
  | .int i => digit i
  | .set xs => ⟨#[60]⟩ ++ Txt.join ⟨#[59]⟩ (xs.map digit) ++ ⟨#[62]⟩
def catP (els : List El) : Str := els.foldl (fun a e => a ++ (⟨#[47]⟩ ++ pc e)) ⟨#[]⟩
def strPre (w : World) (els : List El) (_ : Heap) (news : List (Addr × Obj)) (args : Args) : Prop :=
  ∃ x dx l vs, DerIn w news x dx l vs els ∧ args = ⟨[.ref x], []⟩
def strOut (y : Str) (_ : List (Addr × Obj)) (r : Value) : Prop := ∃ t, r = .str y t
local macro_rules | `(tactic| k_mem) => `(tactic| first | assumption | (refine List.mem_cons_of_mem _ ?_; k_mem) | (refine List.mem_append.mpr (Or.inl ?_); k_mem) | (refine List.mem_append.mpr (Or.inr ?_); k_mem) | exact List.mem_cons_self ..)
local macro_rules | `(tactic| walk_at "call builtin:isinstance") => `(tactic| (k_here; (with_reducible show wpAny _ _ (call (.builtin "isinstance") [Value.ref _, Value.type "list"]) _ _ _); k_dflt (refine' isi_list ?N ?m ?_; (case N => k_asm); (case m => k_mem); k_whole)))
local macro_rules | `(tactic| walk_at "And") => `(tactic| ((with_reducible show Flow.next = Flow.next ∧ _); refine ⟨rfl, ?_⟩))
theorem pc_len (e : El) (h : e.ok) : (pc e).length ≤ 8 := by
  cases e with
  | none => decide
  | int i => exact (by decide : 1 ≤ 8)
  | set xs =>
    simp only [El.ok, menu, List.mem_cons, List.not_mem_nil, or_false] at h
    rcases h with rfl | rfl | rfl | rfl <;> decide +kernel
theorem text_small (j : Int) (h0 : 0 ≤ j) (h1 : j < 5) : Str.ofString (toString j) = digit j := by
  have : j = 0 ∨ j = 1 ∨ j = 2 ∨ j = 3 ∨ j = 4 := by omega
  rcases this with rfl | rfl | rfl | rfl | rfl <;> decide +kernel
local macro_rules | `(tactic| walk_at "eval Name") => `(tactic| (k_here; k_inBlock; (with_reducible rename Fr _ _ _ _ => kF); k_dflt (refine' nameG_B kF ?k1 ?k2 ?k3 ?kv ?kn ?_ ?k4 ?kb ?k5 ?k6 ?k7; (case k4 => rfl); (case kb => rfl); (case k5 => rfl); (case k6 => rfl); (case k7 => decide); (case k1 => k_asm); (case k2 => k_asm); (case k3 => k_is); (case kv => boot_fast); (case kn => decide); k_whole)))
structure DigRel (v y : Value) : Prop where
  out : ∃ i t u, v = .int i t ∧ y = .str (digit i) u
theorem strs_of {ws ys : List Value} {xs : List Int} (h : IntsAre ws xs) (k : Paired DigRel ws ys) : StrsAre ys (xs.map digit) := by
  induction h generalizing ys with
  | nil => cases k; exact .nil
  | cons n t _ ih =>
    cases k with
    | cons h1 h2 =>
      obtain ⟨i, t', u, e1, rfl⟩ := h1.out
      cases e1
      exact .cons _ _ (ih h2)
set_option maxRecDepth 100000 in
set_option maxHeartbeats 8000000 in
theorem str_con (w : World) (els : List El) (hlen : els.length ≤ 4) (hok : ∀ e ∈ els, e.ok) : Con w 844 8 (strPre w els) (strOut (catP els)) := by
  unfold Con
  k_fill
  intro loose mean mg mb dp un gd cn cs a ccd cl outer A₀ base h₀ L m news s R args vw B F X N T hk hpre hdd hu hret
  obtain ⟨x, dx, l, vs, hder, rfl⟩ := hpre
  obtain ⟨td, n, hx, hdx, hl, hels⟩ := hder
  refine' code_def ?k1 ?k2 ?k3 ?k4 ?k5 ?kA ?kF ?kK ?k6 ?k7 ?k8 ?k9 ?kB ?_ ?c2 ?c3 ?c4 ?c5
  (case kA => exact rfl); (case kF => exact rfl); (case kK => assumption); (case k1 => exact B); (case k2 => exact F); (case k3 => exact X); (case k4 => exact N); (case k5 => exact T); (case k6 => k_is); (case k7 => k_is); (case k8 => show dp < _; omega)
  (case k9 => exact BindsTo.of_eq rfl); (case c5 => decide); (case kB => exact locs rfl); (case c2 => exact rfl); (case c3 => exact rfl); (case c4 => exact rfl)
  intro g' L' h' FG' F' N' B' X' T'
  replace F' := frC (fun q => if q = Str.ofString "self" then some (Value.ref x) else none) F' fun q => by
    show _ = List.lookup q [(Str.ofString "self", Value.ref x)]
    simp only [lk_cons, lk_nil]
  have e1 := hels.length
  refine cut (fun s' => ∃ h2 tk tb, s' = { s with heap := h2, toks := tk } ∧ Fr g' L' h2 (fun q => if q = Str.ofString "r" then some (Value.str ⟨#[]⟩ tb) else if q = Str.ofString "self" then some (Value.ref x) else none) ∧ News g' L' h2 news) ?_ fun s' hs' => ?_
  · k_steps
    exact ⟨_, _, _, rfl, by assumption, by assumption⟩
  obtain ⟨h2, tk2, tb, rfl, F2, N2⟩ := hs'
  clear F' N'
  refine cut (fun s' => ∃ (h2 : Heap) (tk : Nat) (tb : Tok) (m2 : Str → Option Value), s' = { s with heap := h2, toks := tk } ∧ Fr g' L' h2 (fun q => if q = Str.ofString "r" then some (Value.str (catP els) tb) else m2 q) ∧ News g' L' h2 news) ?_ fun s' hs' => ?_
  · refine For_invV g' (by rfl) (by rfl) ?_ (fun _ => rfl)
    k_steps
    refine kdl_iter (fun i m nx => nx = news ∧ ∃ tb, m (Str.ofString "r") = some (.str (catP (els.take i)) tb) ∧ (catP (els.take i)).length ≤ 10 * i) (by rfl) hl F2 N2 ⟨rfl, tb, rfl, Nat.le_refl 0⟩ ?_ ?_
    · rintro i v m₁ nx h tk own hv hoff hm ⟨rfl, tb1, hr, hrl⟩ F5 N5
      obtain ⟨el, hel, hin⟩ := hels.get hv
      have hok1 := hok el (List.mem_of_getElem? hel)
      have hi4 : i < 4 := by
        have := (List.getElem?_eq_some_iff.mp hel).1
        omega
      replace F5 := frK1 [(Str.ofString "r", .str (catP (els.take i)) tb1)] F5 (by
        intro p hp
        simp only [List.mem_cons, List.not_mem_nil, or_false] at hp
        rcases hp with rfl
        assumption)
      clear hr F2 N2
      have hcat : catP (els.take (i + 1)) = catP (els.take i) ++ (⟨#[47]⟩ ++ pc el) := by
        rw [List.take_add_one, hel]
        simp [catP, List.foldl_append]
      generalize catP (els.take i) = r0 at hrl hcat F5
      have fin : ∀ (y : Str) (t' : Tok) (h' : Heap) (tk' : Nat) (m' : Str → Option Value), y = r0 ++ (⟨#[47]⟩ ++ pc el) → Fr g' L' h' m' → (∃ tl, News g' L' h' (tl ++ (nx ++ own))) → m' (Str.ofString "r") = some (.str y t') →
          InvEndG g' L' (fun m nw => (l, listOf (List.toArray vs) n) ∈ nw ∧ nw = nx ∧ ∃ tb, m (Str.ofString "r") = some (.str (catP (els.take (i + 1))) tb) ∧ (catP (els.take (i + 1))).length ≤ 10 * (i + 1)) own { s with heap := h, toks := tk } { s with heap := h', toks := tk' } := by
        rintro y t' h' tk' m' rfl F' ⟨tl, N'⟩ hm'
        refine InvEndG.intro F' N' (nx := nx) ⟨hm, rfl, t', by rw [hcat]; exact hm', ?_⟩ hoff (fun p hp => List.mem_append.mpr (.inr (List.mem_append.mpr (.inl hp)))) (fun p hp => List.mem_append.mpr (.inr (List.mem_append.mpr (.inr hp))))
        have := pc_len el hok1
        rw [hcat, Str.length_append, Str.length_append]
        have e : (⟨#[47]⟩ : Str).length = 1 := rfl
        omega
      cases hin with
      | none =>
        k_steps
        exact fin _ _ _ _ _ rfl (by assumption) ⟨[], by assumption⟩ rfl
      | int j t =>
        have hj0 := hok1.1
        have hj1 := hok1.2
        k_steps
        exact fin (r0 ++ (Str.ofString "/" ++ Str.ofString (toString j))) _ _ _ _ (by rw [text_small j hj0 hj1]; rfl) (by assumption) ⟨[], by assumption⟩ rfl
      | @set aS wS nS xS h3 h4 =>
        have hsm : ∀ i ∈ xS, 0 ≤ i ∧ i < 5 := by
          simp only [El.ok, menu, List.mem_cons, List.not_mem_nil, or_false] at hok1
          rcases hok1 with rfl | rfl | rfl | rfl <;> decide
        have hl4 := h4.length
        have hl5 : xS.length ≤ 3 := by
          simp only [El.ok, menu, List.mem_cons, List.not_mem_nil, or_false] at hok1
          rcases hok1 with rfl | rfl | rfl | rfl <;> decide
        k_steps
        refine comp_elt (news := nx ++ own) DigRel (by rfl) (by k_mem) (by show _ ≤ 2 ^ 24; omega) (by assumption) (by assumption) ?_ fun D n ys h' tk hP F6 N6 hD => ?_
        · intro C v s₂ m₂ E' hv hn hm hk2
          have F3 := Fr.keeps (by assumption) hk2
          have N3 := News.grown (by assumption) hk2
          obtain ⟨i1, t1, hi1, rfl⟩ := ints_mem h4 hv
          have hi2 := (hsm i1 hi1).1
          have hi3 := (hsm i1 hi1).2
          k_steps
          · exact ⟨i1, t1, _, rfl, by rw [text_small i1 hi2 hi3]⟩
          · exact ⟨_, _, rfl, fun _ _ e => e⟩
        · k_steps
          have hst := strs_of h4 hP
          refine join_listW (ys := xS.map digit) ⟨_, (N6 _ (List.mem_cons_self ..)).1, rfl, n, rfl⟩ hst (by decide) ?_ fun t9 k9 => ?_
          · simp only [El.ok, menu, List.mem_cons, List.not_mem_nil, or_false] at hok1
            rcases hok1 with rfl | rfl | rfl | rfl <;> decide
          have hjl : (Txt.join (Str.ofString ";") (xS.map digit)).length ≤ 5 := by
            simp only [El.ok, menu, List.mem_cons, List.not_mem_nil, or_false] at hok1
            rcases hok1 with rfl | rfl | rfl | rfl <;> decide +kernel
          k_steps
          refine fin (((r0 ++ Str.ofString "/<") ++ Txt.join (Str.ofString ";") (xS.map digit)) ++ Str.ofString ">") _ _ _ _ ?_ (by assumption) ⟨[(D, listOf (List.toArray ys) n)], by assumption⟩ rfl
          have e1 : Str.ofString "/<" = (⟨#[47]⟩ : Str) ++ ⟨#[60]⟩ := by decide +kernel
          have e2 : Str.ofString ";" = (⟨#[59]⟩ : Str) := by decide +kernel
          have e3 : Str.ofString ">" = (⟨#[62]⟩ : Str) := by decide +kernel
          rw [e1, e2, e3, pc]
          simp only [Str.append_assoc]
    · rintro m₁ nx h tk ⟨rfl, tb1, hr, hrl⟩ F5 N5
      rw [e1, List.take_length] at hr
      exact ⟨rfl, ⟨h, tk, tb1, m₁, rfl, frC _ F5 fun q => by by_cases hq : q = Str.ofString "r" <;> simp [hq, hr], N5⟩⟩
  · obtain ⟨h3, tk3, tb3, m3, rfl, F3, N3⟩ := hs'
    clear F2 N2
    k_steps
    exact hret _ [] _ _ (by k_asm) (by k_asm) (fun _ h => nomatch h) ⟨_, rfl⟩
end Mine
namespace Mine
noncomputable def goC : List El → List Int → Int → Option Int → Option (Int × Int)
  | [], _, b, some i => some (i, b)
  | [], _, _, none => none
  | _ :: _, [], _, _ => none
  | .int k :: es, p :: ps, b, i => if k = p then goC es ps b i else none
  | .set xs :: es, p :: ps, _, i => if p ∈ xs then goC es ps (xs.idxOf p : Nat) i else none
  | .none :: es, p :: ps, b, _ => goC es ps b (some p)
noncomputable def checkR (els : List El) (ps : List Int) : Option (Int × Int) := if ps.length = els.length then goC els ps 0 none else none
def checkPre (w : World) (els : List El) (ps : List Int) (_ : Heap) (news : List (Addr × Obj)) (args : Args) : Prop :=
  ∃ x dx l vs p ws n, DerIn w news x dx l vs els ∧ (p, listOf (List.toArray ws) n) ∈ news ∧ IntsAre ws ps ∧ args = ⟨[.ref x, .ref p], []⟩
def tupOf (vs : List Value) (n : Nat) : Obj := { cls := .type "tuple", data := .seq vs.toArray n }
def checkOut (o : Option (Int × Int)) (nw : List (Addr × Obj)) (r : Value) : Prop := match o with
  | none => r = .none
  | some (i, b) => ∃ T t u n, r = .ref T ∧ (T, tupOf [.int i t, .int b u] n) ∈ nw
local macro_rules | `(tactic| k_mem) => `(tactic| first | assumption | (refine List.mem_cons_of_mem _ ?_; k_mem) | (refine List.mem_append.mpr (Or.inl ?_); k_mem) | (refine List.mem_append.mpr (Or.inr ?_); k_mem) | exact List.mem_cons_self ..)
local macro_rules | `(tactic| walk_at "call builtin:isinstance") => `(tactic| (k_here; (with_reducible show wpAny _ _ (call (.builtin "isinstance") [Value.ref _, Value.type "list"]) _ _ _); k_dflt (refine' isi_list ?N ?m ?_; (case N => k_asm); (case m => k_mem); k_whole)))
local macro_rules | `(tactic| walk_at "call builtin:len") => `(tactic| (k_here; (with_reducible show wpAny _ _ (call (.builtin "len") [Value.ref _]) _ _ _); k_dflt (refine' len_led ?N ?m ?e ?b ?_; (case N => k_asm); (case m => k_mem); (case e => first | assumption | exact rfl); (case b => omega); k_whole)))
local macro_rules | `(tactic| walk_at "compareOp NotIn int ref") => `(tactic| (k_here; k_dflt (refine' notin_led ?N ?m ?i ?_; (case N => k_asm); (case m => k_mem); (case i => assumption); k_whole)))
local macro_rules | `(tactic| walk_at "And") => `(tactic| ((with_reducible show Flow.next = Flow.next ∧ _); refine ⟨rfl, ?_⟩))
set_option maxRecDepth 100000 in
set_option maxHeartbeats 8000000 in
theorem check_con (w : World) (els : List El) (ps : List Int) (hlen : els.length ≤ 1000) (hp : ps.length ≤ 1000) (hset : ∀ xs, El.set xs ∈ els → PyData.layable0 (.list (xs.map .int)) = true) : Con w 795 8 (checkPre w els ps) (checkOut (checkR els ps)) := by
  unfold Con
  k_fill
  intro loose mean mg mb dp un gd cn cs a ccd cl outer A₀ base h₀ L m news s R args vw B F X N T hk hpre hdd hu hret
  obtain ⟨x, dx, l, vs, p, ws, np, hder, hpm, hpi, rfl⟩ := hpre
  obtain ⟨td, n, hx, hdx, hl, hels⟩ := hder
  refine' code_def ?k1 ?k2 ?k3 ?k4 ?k5 ?kA ?kF ?kK ?k6 ?k7 ?k8 ?k9 ?kB ?_ ?c2 ?c3 ?c4 ?c5
  (case kA => exact rfl); (case kF => exact rfl); (case kK => assumption); (case k1 => exact B); (case k2 => exact F); (case k3 => exact X); (case k4 => exact N); (case k5 => exact T); (case k6 => k_is); (case k7 => k_is); (case k8 => show dp < _; omega)
  (case k9 => exact BindsTo.of_eq rfl); (case c5 => decide); (case kB => exact locs rfl); (case c2 => exact rfl); (case c3 => exact rfl); (case c4 => exact rfl)
  intro g' L' h' FG' F' N' B' X' T'
  replace F' := frC (fun q => if q = Str.ofString "derivation" then some (Value.ref p) else if q = Str.ofString "self" then some (Value.ref x) else none) F' fun q => by
    show _ = List.lookup q [(Str.ofString "derivation", Value.ref p), (Str.ofString "self", Value.ref x)]
    simp only [lk_cons, lk_nil]
  have e1 := hels.length
  have e2 := hpi.length
  by_cases hpe : ps.length = els.length
  · have hpe' : (ps.length : Int) = (els.length : Int) := by omega
    refine cut3 (fun s' => ∃ h2 tk tb, s' = { s with heap := h2, toks := tk } ∧ Fr g' L' h2 (fun q => if q = Str.ofString "idx" then some Value.none else if q = Str.ofString "branch_idx" then some (Value.int 0 tb) else if q = Str.ofString "derivation" then some (Value.ref p) else if q = Str.ofString "self" then some (Value.ref x) else none) ∧ News g' L' h2 news) ?_ fun s' hs' => ?_
    · k_steps
      all_goals first | (exfalso; omega) | exact ⟨_, _, _, rfl, by assumption, by assumption⟩
    obtain ⟨h2, tk2, tb, rfl, F2, N2⟩ := hs'
    refine wpAny_execs_cons ?_
    refine For_en g' (by rfl) (by rfl) (by rfl) ?_ (fun _ => rfl)
    k_steps
    refine call_en (fun i m nw => nw = news ∧ m (Str.ofString "derivation") = some (.ref p) ∧ ∃ b t vi oi, m (Str.ofString "branch_idx") = some (.int b t) ∧ m (Str.ofString "idx") = some vi ∧ OI vi oi ∧ goC els ps 0 none = goC (els.drop i) (ps.drop i) b oi)
      (by rfl) hl F2 N2 ⟨rfl, rfl, 0, _, _, none, rfl, rfl, .none, rfl⟩ ?_ ?_ ?_
    · rintro i m' nw ⟨rfl, _⟩
      exact ⟨vs, _, hl, rfl⟩
    · rintro i v t m₁ nw h tk own us nn hi hmem hv hadr hown ⟨rfl, ha, b, tb, vi, oi, hb, hc, hoi, hgo⟩ F5 N5
      obtain rfl := led_eq N5 (List.mem_append.mpr (.inl hmem)) (List.mem_append.mpr (.inl hl))
      clear F2 N2 F'
      obtain ⟨el, hel, hin⟩ := hels.get hv
      have hi2 : i < ps.length := by omega
      have hi3 : i < els.length := by omega
      have hd1 : els.drop i = el :: els.drop (i + 1) := by
        rw [List.drop_eq_getElem_cons hi3]
        rw [List.getElem?_eq_getElem hi3] at hel
        rw [Option.some.inj hel]
      have hd2 : ps.drop i = ps[i] :: ps.drop (i + 1) := List.drop_eq_getElem_cons hi2
      rw [hd1, hd2] at hgo
      have hg : ps.getD ((i : Int).toNat) 0 = ps[i] := by simp [hi2]
      generalize ps[i] = pi at hgo hg
      replace F5 := frK [(Str.ofString "derivation", .ref p), (Str.ofString "branch_idx", .int b tb), (Str.ofString "idx", vi)] F5 (by
        intro p hp
        simp only [List.mem_cons, List.not_mem_nil, or_false] at hp
        rcases hp with rfl | rfl | rfl <;> assumption)
      clear ha hb hc
      have fin : ∀ (b' : Int) (t' : Tok) (vi' : Value) (oi' : Option Int) (h' : Heap) (tk' : Nat) (m' : Str → Option Value), Fr g' L' h' m' → News g' L' h' (nw ++ own) → m' (Str.ofString "derivation") = some (.ref p) → m' (Str.ofString "branch_idx") = some (.int b' t') → m' (Str.ofString "idx") = some vi' → OI vi' oi' →
          goC (el :: els.drop (i + 1)) (pi :: ps.drop (i + 1)) b oi = goC (els.drop (i + 1)) (ps.drop (i + 1)) b' oi' →
          InvEndN g' L' (fun m nw_1 => nw_1 = nw ∧ m (Str.ofString "derivation") = some (.ref p) ∧ ∃ b t vi oi, m (Str.ofString "branch_idx") = some (.int b t) ∧ m (Str.ofString "idx") = some vi ∧ OI vi oi ∧ goC els ps 0 none = goC (els.drop (i + 1)) (ps.drop (i + 1)) b oi) own (nw.map (·.1)) { s with heap := h, toks := tk } { s with heap := h', toks := tk' } := by
        intro b' t' vi' oi' h' tk' m' F' N' a1 a2 a3 a4 a5
        exact InvEndN.intro F' N' (nx := nw) ⟨rfl, a1, b', t', vi', oi', a2, a3, a4, hgo.trans a5⟩ rfl (fun p hp => List.mem_append.mpr (.inl hp)) (fun p hp => List.mem_append.mpr (.inr hp))
      have out : ∀ (h' : Heap) (tk' : Nat), Fr h₀ L h' m → News h₀ L h' (nw ++ own) → goC (el :: els.drop (i + 1)) (pi :: ps.drop (i + 1)) b oi = none → R (.ok (.ret .none)) { s with heap := h', toks := tk' } := by
        intro h' tk' F' N' e
        refine hret .none [] _ _ F' (fun p hp => N' p (List.mem_append.mpr (.inl hp))) (fun _ h => nomatch h) ?_
        rw [checkR, if_pos hpe, hgo, e]
        rfl
      cases hin with
      | none =>
        k_steps
        exact fin b tb _ (some pi) _ _ _ (by assumption) (by assumption) rfl rfl rfl (by rw [hg]; exact OI.int _ _) rfl
      | int j t =>
        k_steps
        · exact out _ _ (by assumption) (by assumption) (by rw [goC, if_neg (by omega)])
        · exact fin b tb _ oi _ _ _ (by assumption) (by assumption) rfl rfl rfl hoi (by rw [goC, if_pos (by omega)])
      | @set aS wS nS xS h1 h2 =>
        have hs1 := hset xS (List.mem_of_getElem? hel)
        k_steps
        · have hany : pi ∈ xS := by
            obtain ⟨y, hy, e⟩ := List.any_eq_true.mp ‹_›
            rw [hg] at e
            rw [← eq_of_beq e]
            exact hy
          rw [hg]
          refine index_led (by k_asm) (List.mem_append.mpr (.inl h1)) h2 hs1 hany ?_
          k_steps
          exact fin (xS.idxOf pi : Nat) _ _ oi _ _ _ (by assumption) (by assumption) rfl rfl rfl hoi (by rw [goC, if_pos hany])
        · have hany : pi ∉ xS := by
            intro hm
            have e : (xS.any fun x => x == ps.getD (i : Int).toNat 0) = true := List.any_eq_true.mpr ⟨pi, hm, by rw [hg]; exact beq_self_eq_true _⟩
            rename (xS.any fun x => x == ps.getD (i : Int).toNat 0) = false => hq
            rw [hq] at e
            cases e
          exact out _ _ (by assumption) (by assumption) (by rw [goC, if_neg hany])
    · rintro m₁ nw h tk ⟨rfl, ha, b, tb, vi, oi, hb, hc, hoi, hgo⟩ F5 N5
      replace F5 := frK0 [(Str.ofString "derivation", .ref p), (Str.ofString "branch_idx", .int b tb), (Str.ofString "idx", vi)] F5 (by
        intro p hp
        simp only [List.mem_cons, List.not_mem_nil, or_false] at hp
        rcases hp with rfl | rfl | rfl <;> assumption)
      clear ha hb hc F2 N2 F'
      rw [e1, List.drop_length, ← hpe, List.drop_length] at hgo
      dsimp only
      cases hoi with
      | none =>
        k_steps
        refine hret .none [] _ _ (by k_asm) (by k_asm) (fun _ h => nomatch h) ?_
        rw [checkR, if_pos hpe, hgo]
        rfl
      | int j t =>
        k_steps
        refine ret_any hret (fun l l' r hs ho => ?_) (tl := [_]) (by k_asm) (by k_asm) ?_
        · cases hc : checkR els ps with
          | none => rw [hc] at ho; exact ho
          | some ib =>
            rw [hc] at ho
            obtain ⟨T, t, u, n, e, hm⟩ := ho
            exact ⟨T, t, u, n, e, hs _ hm⟩
        · rw [checkR, if_pos hpe, hgo]
          exact ⟨_, _, _, _, rfl, List.mem_cons_self ..⟩
  · have hpe' : (ps.length : Int) ≠ (els.length : Int) := by omega
    have e : checkR els ps = none := by rw [checkR, if_neg hpe]
    k_steps
    · exact hret .none [] _ _ (by k_asm) (by k_asm) (fun _ h => nomatch h) (by rw [e]; rfl)
    · exfalso; omega
end Mine
namespace Mine
def branchPre (w : World) (els : List El) (br : Int) (_ : Heap) (news : List (Addr × Obj)) (args : Args) : Prop :=
  ∃ x dx l vs t, DerIn w news x dx l vs els ∧ args = ⟨[.ref x, .int br t], []⟩
def derOut (w : World) (els : List El) (nw : List (Addr × Obj)) (r : Value) : Prop := ∃ x dx l vs, r = .ref x ∧ DerIn w nw x dx l vs els
theorem fill_nones (b : Nat) : ∀ els : List El, ((els.map (fillE none b)).filter El.isNone).length = (els.filter El.isNone).length
  | [] => rfl
  | .none :: r => congrArg (· + 1) (fill_nones b r)
  | .int _ :: r => fill_nones b r
  | .set _ :: r => fill_nones b r
theorem fill_sets (i : Option Int) (b : Nat) : ∀ els : List El, ((els.map (fillE i b)).filter El.isSet).length = 0
  | [] => rfl
  | .none :: r => by
    cases i with
    | none => exact fill_sets none b r
    | some i => exact fill_sets (some i) b r
  | .int _ :: r => fill_sets i b r
  | .set _ :: r => fill_sets i b r
def isInts (els : List El) : Prop := ∀ e ∈ els, ∃ i, e = El.int i
local macro_rules | `(tactic| walk_at "call ref") => `(tactic| ((with_reducible show wpAny _ _ (call (Value.ref 781) _) _ _ _); refine Stop.out ?_))
local macro_rules | `(tactic| walk_at "call ref") => `(tactic| ((with_reducible show wpAny _ _ (call (Value.ref 847) _) _ _ _); refine Stop.out ?_))
set_option maxRecDepth 100000 in
set_option maxHeartbeats 8000000 in
theorem branch_con (w : World) (els : List El) (br : Int) (hlen : els.length ≤ 1000) (hbr : brOk (some br) els) (h1 : (els.filter El.isNone).length ≤ 1) : Con w 788 16 (branchPre w els br) (derOut w (els.map (fillE none br.toNat))) := by
  unfold Con
  k_fill
  intro loose mean mg mb dp un gd cn cs a ccd cl outer A₀ base h₀ L m news s R args vw B F X N T hk hpre hdd hu hret
  obtain ⟨x, dx, l, vs, tb, hder, rfl⟩ := hpre
  obtain ⟨td, n, hx, hdx, hl, hels⟩ := id hder
  refine' code_def ?k1 ?k2 ?k3 ?k4 ?k5 ?kA ?kF ?kK ?k6 ?k7 ?k8 ?k9 ?kB ?_ ?c2 ?c3 ?c4 ?c5
  (case kA => exact rfl); (case kF => exact rfl); (case kK => assumption); (case k1 => exact B); (case k2 => exact F); (case k3 => exact X); (case k4 => exact N); (case k5 => exact T); (case k6 => k_is); (case k7 => k_is); (case k8 => show dp < _; omega)
  (case k9 => exact BindsTo.of_eq rfl); (case c5 => decide); (case kB => exact locs rfl); (case c2 => exact rfl); (case c3 => exact rfl); (case c4 => exact rfl)
  intro g' L' h' FG' F' N' B' X' T'
  replace F' := frC (fun q => if q = Str.ofString "branch_index" then some (Value.int br tb) else if q = Str.ofString "self" then some (Value.ref x) else none) F' fun q => by
    show _ = List.lookup q [(Str.ofString "branch_index", Value.int br tb), (Str.ofString "self", Value.ref x)]
    simp only [lk_cons, lk_nil]
  k_steps
  refine ⟨wpAny_call (fill_con w els none (some br) hlen (by simp) hbr loose mean mg mb _ _ _ _ _ _ _ _ _ _ _ _ _ _ _ _ _ _ B' F' X' N' T' rfl ⟨x, dx, l, vs, _, _, hder, .none, .int _ _, .inl rfl⟩ ?_ ?_ ?_)⟩
  · show dp + 1 + 8 < _
    omega
  · show un + 3 + 8 * 8 < _
    omega
  · intro r tl h1' tk1 F1 N1 hD1 ho
    obtain ⟨D, us, n1, rfl, hD, hE⟩ := ho
    clear F' N'
    k_steps
    refine ⟨wpAny_call (init_con w D us (els.map (fillE none br.toNat)) (by rw [List.length_map]; exact hlen) (by rw [fill_nones]; exact h1) (by rw [fill_sets]; omega) loose mean mg mb _ _ _ _ _ _ _ _ _ _ _ _ _ _ _ _ _ _ B' (by k_asm) X' (by k_asm) T' rfl ⟨_, hD, hE, rfl⟩ ?_ ?_ ?_)⟩
    · show dp + 1 + 8 < _
      omega
    · show un + 3 + 8 * 8 < _
      omega
    · intro r2 tl2 h2' tk2 F2 N2 hD2 ho
      obtain ⟨x2, dx2, rfl, hd2⟩ := ho
      rw [← List.append_assoc] at N2 hd2
      k_steps
      exact ret_any hret (fun l l' r hs ho => by obtain ⟨x, dx, l, vs, e, h⟩ := ho; exact ⟨x, dx, l, vs, e, h.mono hs⟩) (tl := tl2 ++ tl) (by k_asm) (by k_asm) ⟨x2, dx2, D, us, rfl, hd2⟩
end Mine
namespace Mine
def elOut (e : El) (nw : List (Addr × Obj)) (r : Value) : Prop := ElIn nw r e
def peiC (y : String) (_ : Heap) (_ : List (Addr × Obj)) (args : Args) : Prop :=
  ∃ z t b, z = Str.ofString y ∧ (args = ⟨[.ref 847, .str z t, .bool false, .bool b], []⟩ ∨ args = ⟨[.ref 847, .str z t, .bool false], [(Str.ofString "allow_set", .bool b)]⟩)
theorem elOut_mono {e : El} (l l' : List (Addr × Obj)) (r : Value) (hs : ∀ p ∈ l, p ∈ l') (h : elOut e l r) : elOut e l' r := ElIn.mono hs h
set_option maxRecDepth 100000 in
set_option maxHeartbeats 8000000 in
theorem pei0 (w : World) : Con w 836 8 (peiC "0") (elOut (.int 0)) := by
  unfold Con
  k_fill
  intro loose mean mg mb dp un gd cn cs a ccd cl outer A₀ base h₀ L m news s R args vw B F X N T hk hpre hdd hu hret
  obtain ⟨z, t, b, rfl, hargs⟩ := hpre
  refine' code_defC (binds := [(Str.ofString "cls", .ref 847), (Str.ofString "d", .str (Str.ofString "0") t), (Str.ofString "allow_hardened", .bool false), (Str.ofString "allow_set", .bool b)]) ?k1 ?k2 ?k3 ?k4 ?k5 ?kA ?kF ?kK ?k6 ?k7 ?k8 ?k9 ?kB ?kD ?_ ?c2 ?c3 ?c4
  (case kA => exact rfl); (case kF => exact rfl); (case kK => assumption); (case k1 => exact B); (case k2 => exact F); (case k3 => exact X); (case k4 => exact N); (case k5 => exact T); (case k6 => k_is); (case k7 => k_is); (case k8 => show dp < _; omega)
  (case k9 => (rcases hargs with rfl | rfl) <;> exact binds_K (by k_in) rfl (by k_is) rfl rfl rfl); (case kB => exact rfl); (case kD => decide +kernel); (case c2 => exact rfl); (case c3 => exact rfl); (case c4 => exact rfl)
  intro g' L' h' tk' cells' FG' F' N' Y' B' X' T' l1
  clear hargs
  k_steps
  exact ret_any hret elOut_mono (tl := _ :: cells') (by k_asm) (by k_asm) (.int _ _)
set_option maxRecDepth 100000 in
set_option maxHeartbeats 8000000 in
theorem pei1 (w : World) : Con w 836 8 (peiC "1") (elOut (.int 1)) := by
  unfold Con
  k_fill
  intro loose mean mg mb dp un gd cn cs a ccd cl outer A₀ base h₀ L m news s R args vw B F X N T hk hpre hdd hu hret
  obtain ⟨z, t, b, rfl, hargs⟩ := hpre
  refine' code_defC (binds := [(Str.ofString "cls", .ref 847), (Str.ofString "d", .str (Str.ofString "1") t), (Str.ofString "allow_hardened", .bool false), (Str.ofString "allow_set", .bool b)]) ?k1 ?k2 ?k3 ?k4 ?k5 ?kA ?kF ?kK ?k6 ?k7 ?k8 ?k9 ?kB ?kD ?_ ?c2 ?c3 ?c4
  (case kA => exact rfl); (case kF => exact rfl); (case kK => assumption); (case k1 => exact B); (case k2 => exact F); (case k3 => exact X); (case k4 => exact N); (case k5 => exact T); (case k6 => k_is); (case k7 => k_is); (case k8 => show dp < _; omega)
  (case k9 => (rcases hargs with rfl | rfl) <;> exact binds_K (by k_in) rfl (by k_is) rfl rfl rfl); (case kB => exact rfl); (case kD => decide +kernel); (case c2 => exact rfl); (case c3 => exact rfl); (case c4 => exact rfl)
  intro g' L' h' tk' cells' FG' F' N' Y' B' X' T' l1
  clear hargs
  k_steps
  exact ret_any hret elOut_mono (tl := _ :: cells') (by k_asm) (by k_asm) (.int _ _)
set_option maxRecDepth 100000 in
set_option maxHeartbeats 8000000 in
theorem pei2 (w : World) : Con w 836 8 (peiC "2") (elOut (.int 2)) := by
  unfold Con
  k_fill
  intro loose mean mg mb dp un gd cn cs a ccd cl outer A₀ base h₀ L m news s R args vw B F X N T hk hpre hdd hu hret
  obtain ⟨z, t, b, rfl, hargs⟩ := hpre
  refine' code_defC (binds := [(Str.ofString "cls", .ref 847), (Str.ofString "d", .str (Str.ofString "2") t), (Str.ofString "allow_hardened", .bool false), (Str.ofString "allow_set", .bool b)]) ?k1 ?k2 ?k3 ?k4 ?k5 ?kA ?kF ?kK ?k6 ?k7 ?k8 ?k9 ?kB ?kD ?_ ?c2 ?c3 ?c4
  (case kA => exact rfl); (case kF => exact rfl); (case kK => assumption); (case k1 => exact B); (case k2 => exact F); (case k3 => exact X); (case k4 => exact N); (case k5 => exact T); (case k6 => k_is); (case k7 => k_is); (case k8 => show dp < _; omega)
  (case k9 => (rcases hargs with rfl | rfl) <;> exact binds_K (by k_in) rfl (by k_is) rfl rfl rfl); (case kB => exact rfl); (case kD => decide +kernel); (case c2 => exact rfl); (case c3 => exact rfl); (case c4 => exact rfl)
  intro g' L' h' tk' cells' FG' F' N' Y' B' X' T' l1
  clear hargs
  k_steps
  exact ret_any hret elOut_mono (tl := _ :: cells') (by k_asm) (by k_asm) (.int _ _)
set_option maxRecDepth 100000 in
set_option maxHeartbeats 8000000 in
theorem pei3 (w : World) : Con w 836 8 (peiC "3") (elOut (.int 3)) := by
  unfold Con
  k_fill
  intro loose mean mg mb dp un gd cn cs a ccd cl outer A₀ base h₀ L m news s R args vw B F X N T hk hpre hdd hu hret
  obtain ⟨z, t, b, rfl, hargs⟩ := hpre
  refine' code_defC (binds := [(Str.ofString "cls", .ref 847), (Str.ofString "d", .str (Str.ofString "3") t), (Str.ofString "allow_hardened", .bool false), (Str.ofString "allow_set", .bool b)]) ?k1 ?k2 ?k3 ?k4 ?k5 ?kA ?kF ?kK ?k6 ?k7 ?k8 ?k9 ?kB ?kD ?_ ?c2 ?c3 ?c4
  (case kA => exact rfl); (case kF => exact rfl); (case kK => assumption); (case k1 => exact B); (case k2 => exact F); (case k3 => exact X); (case k4 => exact N); (case k5 => exact T); (case k6 => k_is); (case k7 => k_is); (case k8 => show dp < _; omega)
  (case k9 => (rcases hargs with rfl | rfl) <;> exact binds_K (by k_in) rfl (by k_is) rfl rfl rfl); (case kB => exact rfl); (case kD => decide +kernel); (case c2 => exact rfl); (case c3 => exact rfl); (case c4 => exact rfl)
  intro g' L' h' tk' cells' FG' F' N' Y' B' X' T' l1
  clear hargs
  k_steps
  exact ret_any hret elOut_mono (tl := _ :: cells') (by k_asm) (by k_asm) (.int _ _)
set_option maxRecDepth 100000 in
set_option maxHeartbeats 8000000 in
theorem pei4 (w : World) : Con w 836 8 (peiC "4") (elOut (.int 4)) := by
  unfold Con
  k_fill
  intro loose mean mg mb dp un gd cn cs a ccd cl outer A₀ base h₀ L m news s R args vw B F X N T hk hpre hdd hu hret
  obtain ⟨z, t, b, rfl, hargs⟩ := hpre
  refine' code_defC (binds := [(Str.ofString "cls", .ref 847), (Str.ofString "d", .str (Str.ofString "4") t), (Str.ofString "allow_hardened", .bool false), (Str.ofString "allow_set", .bool b)]) ?k1 ?k2 ?k3 ?k4 ?k5 ?kA ?kF ?kK ?k6 ?k7 ?k8 ?k9 ?kB ?kD ?_ ?c2 ?c3 ?c4
  (case kA => exact rfl); (case kF => exact rfl); (case kK => assumption); (case k1 => exact B); (case k2 => exact F); (case k3 => exact X); (case k4 => exact N); (case k5 => exact T); (case k6 => k_is); (case k7 => k_is); (case k8 => show dp < _; omega)
  (case k9 => (rcases hargs with rfl | rfl) <;> exact binds_K (by k_in) rfl (by k_is) rfl rfl rfl); (case kB => exact rfl); (case kD => decide +kernel); (case c2 => exact rfl); (case c3 => exact rfl); (case c4 => exact rfl)
  intro g' L' h' tk' cells' FG' F' N' Y' B' X' T' l1
  clear hargs
  k_steps
  exact ret_any hret elOut_mono (tl := _ :: cells') (by k_asm) (by k_asm) (.int _ _)
set_option maxRecDepth 100000 in
set_option maxHeartbeats 8000000 in
theorem pestar (w : World) : Con w 836 8 (peiC "*") (elOut .none) := by
  unfold Con
  k_fill
  intro loose mean mg mb dp un gd cn cs a ccd cl outer A₀ base h₀ L m news s R args vw B F X N T hk hpre hdd hu hret
  obtain ⟨z, t, b, rfl, hargs⟩ := hpre
  refine' code_defC (binds := [(Str.ofString "cls", .ref 847), (Str.ofString "d", .str (Str.ofString "*") t), (Str.ofString "allow_hardened", .bool false), (Str.ofString "allow_set", .bool b)]) ?k1 ?k2 ?k3 ?k4 ?k5 ?kA ?kF ?kK ?k6 ?k7 ?k8 ?k9 ?kB ?kD ?_ ?c2 ?c3 ?c4
  (case kA => exact rfl); (case kF => exact rfl); (case kK => assumption); (case k1 => exact B); (case k2 => exact F); (case k3 => exact X); (case k4 => exact N); (case k5 => exact T); (case k6 => k_is); (case k7 => k_is); (case k8 => show dp < _; omega)
  (case k9 => (rcases hargs with rfl | rfl) <;> exact binds_K (by k_in) rfl (by k_is) rfl rfl rfl); (case kB => exact rfl); (case kD => decide +kernel); (case c2 => exact rfl); (case c3 => exact rfl); (case c4 => exact rfl)
  intro g' L' h' tk' cells' FG' F' N' Y' B' X' T' l1
  clear hargs
  k_steps
  exact ret_any hret elOut_mono (tl := cells') (by k_asm) (by k_asm) (.none)
end Mine
namespace Mine
def elOutN (nw0 : List (Addr × Obj)) (e : El) (nw : List (Addr × Obj)) (r : Value) : Prop := ElIn nw r e ∧ ∀ a, r = .ref a → ∀ p ∈ nw0, p.1 ≠ a
theorem elOutN_mono {nw0 : List (Addr × Obj)} {e : El} (l l' : List (Addr × Obj)) (r : Value) (hs : ∀ p ∈ l, p ∈ l') (h : elOutN nw0 e l r) : elOutN nw0 e l' r := ⟨ElIn.mono hs h.1, h.2⟩
theorem off1_mem {D : Addr} : ∀ {l : List (Addr × Obj)}, LCg.Off1 D l → ∀ p ∈ l, p.1 ≠ D
  | [], _, _, h => nomatch h
  | _ :: _, x, p, h => by
    rcases List.mem_cons.mp h with rfl | h
    · exact x.1
    · exact off1_mem x.2 p h
theorem Con.weaken {w : World} {f : Addr} {k k' : Nat} {Pre Pre' : Heap → List (Addr × Obj) → Args → Prop} {Out Out' : List (Addr × Obj) → Value → Prop} (c : Con w f k Pre Out) (hk : k ≤ k') (hp : ∀ b n a, Pre' b n a → Pre b n a) (ho : ∀ n r, Out n r → Out' n r) : Con w f k' Pre' Out' := by
  unfold Con at c ⊢
  intro loose mean mg mb dp un gd cn cs a ccd cl outer A₀ base h₀ L m news s R args vw B F X N T hk1 hpre hdd hu hret
  exact c loose mean mg mb dp un gd cn cs a ccd cl outer A₀ base h₀ L m news s R args B F X N T hk1 (hp _ _ _ hpre) (by omega) (by omega) fun r tl h' tk' F' N' hd o => hret r tl h' tk' F' N' hd (ho _ _ o)
def pesC (nw0 : List (Addr × Obj)) (y : String) (_ : Heap) (news : List (Addr × Obj)) (args : Args) : Prop :=
  news = nw0 ∧ ∃ t, args = ⟨[.ref 847, .str (Str.ofString y) t, .bool false, .bool true], []⟩
local macro_rules | `(tactic| walk_at "call ref") => `(tactic| ((with_reducible show wpAny _ _ (call (Value.ref _) _ _) _ _ _); refine Stop.out ?_))
local macro_rules | `(tactic| walk_at "callWith ref") => `(tactic| (k_here; k_dflt (refine' callWith_MKW ?k1 ?k2 ?k3 ?k4 ?k5 ?_; (case k1 => k_asm); (case k2 => k_asm); (case k3 => k_mem); (case k4 => k_is); (case k5 => exact rfl); k_whole)))
set_option maxRecDepth 100000 in
set_option maxHeartbeats 8000000 in
theorem pes01 (w : World) (nw0 : List (Addr × Obj)) : Con w 836 16 (pesC nw0 "<0;1>") (elOutN nw0 (.set [0, 1])) := by
  unfold Con
  k_fill
  intro loose mean mg mb dp un gd cn cs a ccd cl outer A₀ base h₀ L m news s R args vw B F X N T hk hpre hdd hu hret
  obtain ⟨rfl, t, rfl⟩ := hpre
  refine' code_defC (binds := [(Str.ofString "cls", .ref 847), (Str.ofString "d", .str (Str.ofString "<0;1>") t), (Str.ofString "allow_hardened", .bool false), (Str.ofString "allow_set", .bool true)]) ?k1 ?k2 ?k3 ?k4 ?k5 ?kA ?kF ?kK ?k6 ?k7 ?k8 ?k9 ?kB ?kD ?_ ?c2 ?c3 ?c4
  (case kA => exact rfl); (case kF => exact rfl); (case kK => assumption); (case k1 => exact B); (case k2 => exact F); (case k3 => exact X); (case k4 => exact N); (case k5 => exact T); (case k6 => k_is); (case k7 => k_is); (case k8 => show dp < _; omega)
  (case k9 => exact binds_K (by k_in) rfl (by k_is) rfl rfl rfl); (case kB => exact rfl); (case kD => decide +kernel); (case c2 => exact rfl); (case c3 => exact rfl); (case c4 => exact rfl)
  intro g' L' h' tk' cells' FG' F' N' Y' B' X' T' l1
  obtain ⟨o1, o2, rfl, d1, d2⟩ := Y'.two
  clear Y'
  simp only [List.cons_append, List.nil_append] at N'
  k_steps
  refine ⟨call_meth (by k_asm) (by k_mem) (pei0 w loose mean mg mb _ _ _ _ _ _ _ _ _ _ _ _ _ _ _ _ _ _ B' (by k_asm) X' (by k_asm) T' rfl ⟨_, _, _, by decide +kernel, .inr rfl⟩ ?_ ?_ ?_)⟩
  · show dp + 1 + 8 < _
    omega
  · show un + 3 + 8 * 8 < _
    omega
  intro r1 tl1 h1 tk1 F1 N1 hD1 ho1
  replace N1 := N1.right
  cases ho1
  dsimp only
  refine LCg.CompEnd.intro (by assumption) N1 _ (fun p hp => List.mem_cons_of_mem _ hp) (by first | assumption | (simp only [LCg.Off3, and_true]; assumption)) (by exact Or.inr ⟨_, by k_mem, rfl, _, rfl⟩) ?_
  clear F1 N1 hD1
  k_unmd
  k_steps
  refine ⟨call_meth (by k_asm) (by k_mem) (pei1 w loose mean mg mb _ _ _ _ _ _ _ _ _ _ _ _ _ _ _ _ _ _ B' (by k_asm) X' (by k_asm) T' rfl ⟨_, _, _, by decide +kernel, .inr rfl⟩ ?_ ?_ ?_)⟩
  · show dp + 1 + 8 < _
    omega
  · show un + 3 + 8 * 8 < _
    omega
  intro r1 tl1 h1 tk1 F1 N1 hD1 ho1
  replace N1 := N1.right
  cases ho1
  dsimp only
  refine LCg.CompEnd.intro (by assumption) N1 _ (fun p hp => List.mem_cons_of_mem _ hp) (by first | assumption | (simp only [LCg.Off3, and_true]; assumption)) (by exact Or.inr ⟨_, by k_mem, rfl, _, rfl⟩) ?_
  clear F1 N1 hD1
  k_unmd
  k_steps
  have h9 := And.right (And.right (And.right (by assumption : _ ∧ _ ∧ _ ∧ LCg.Off1 _ news)))
  exact ret_any hret elOutN_mono (tl := [_, _, _, _]) (by k_asm) (by k_asm) ⟨.set (.head _) (.cons _ _ (.cons _ _ .nil)), fun a e p hp => by cases e; exact off1_mem h9 p hp⟩
set_option maxRecDepth 100000 in
set_option maxHeartbeats 8000000 in
theorem pes20 (w : World) (nw0 : List (Addr × Obj)) : Con w 836 16 (pesC nw0 "<2;0>") (elOutN nw0 (.set [2, 0])) := by
  unfold Con
  k_fill
  intro loose mean mg mb dp un gd cn cs a ccd cl outer A₀ base h₀ L m news s R args vw B F X N T hk hpre hdd hu hret
  obtain ⟨rfl, t, rfl⟩ := hpre
  refine' code_defC (binds := [(Str.ofString "cls", .ref 847), (Str.ofString "d", .str (Str.ofString "<2;0>") t), (Str.ofString "allow_hardened", .bool false), (Str.ofString "allow_set", .bool true)]) ?k1 ?k2 ?k3 ?k4 ?k5 ?kA ?kF ?kK ?k6 ?k7 ?k8 ?k9 ?kB ?kD ?_ ?c2 ?c3 ?c4
  (case kA => exact rfl); (case kF => exact rfl); (case kK => assumption); (case k1 => exact B); (case k2 => exact F); (case k3 => exact X); (case k4 => exact N); (case k5 => exact T); (case k6 => k_is); (case k7 => k_is); (case k8 => show dp < _; omega)
  (case k9 => exact binds_K (by k_in) rfl (by k_is) rfl rfl rfl); (case kB => exact rfl); (case kD => decide +kernel); (case c2 => exact rfl); (case c3 => exact rfl); (case c4 => exact rfl)
  intro g' L' h' tk' cells' FG' F' N' Y' B' X' T' l1
  obtain ⟨o1, o2, rfl, d1, d2⟩ := Y'.two
  clear Y'
  simp only [List.cons_append, List.nil_append] at N'
  k_steps
  refine ⟨call_meth (by k_asm) (by k_mem) (pei2 w loose mean mg mb _ _ _ _ _ _ _ _ _ _ _ _ _ _ _ _ _ _ B' (by k_asm) X' (by k_asm) T' rfl ⟨_, _, _, by decide +kernel, .inr rfl⟩ ?_ ?_ ?_)⟩
  · show dp + 1 + 8 < _
    omega
  · show un + 3 + 8 * 8 < _
    omega
  intro r1 tl1 h1 tk1 F1 N1 hD1 ho1
  replace N1 := N1.right
  cases ho1
  dsimp only
  refine LCg.CompEnd.intro (by assumption) N1 _ (fun p hp => List.mem_cons_of_mem _ hp) (by first | assumption | (simp only [LCg.Off3, and_true]; assumption)) (by exact Or.inr ⟨_, by k_mem, rfl, _, rfl⟩) ?_
  clear F1 N1 hD1
  k_unmd
  k_steps
  refine ⟨call_meth (by k_asm) (by k_mem) (pei0 w loose mean mg mb _ _ _ _ _ _ _ _ _ _ _ _ _ _ _ _ _ _ B' (by k_asm) X' (by k_asm) T' rfl ⟨_, _, _, by decide +kernel, .inr rfl⟩ ?_ ?_ ?_)⟩
  · show dp + 1 + 8 < _
    omega
  · show un + 3 + 8 * 8 < _
    omega
  intro r1 tl1 h1 tk1 F1 N1 hD1 ho1
  replace N1 := N1.right
  cases ho1
  dsimp only
  refine LCg.CompEnd.intro (by assumption) N1 _ (fun p hp => List.mem_cons_of_mem _ hp) (by first | assumption | (simp only [LCg.Off3, and_true]; assumption)) (by exact Or.inr ⟨_, by k_mem, rfl, _, rfl⟩) ?_
  clear F1 N1 hD1
  k_unmd
  k_steps
  have h9 := And.right (And.right (And.right (by assumption : _ ∧ _ ∧ _ ∧ LCg.Off1 _ news)))
  exact ret_any hret elOutN_mono (tl := [_, _, _, _]) (by k_asm) (by k_asm) ⟨.set (.head _) (.cons _ _ (.cons _ _ .nil)), fun a e p hp => by cases e; exact off1_mem h9 p hp⟩
set_option maxRecDepth 100000 in
set_option maxHeartbeats 8000000 in
theorem pes134 (w : World) (nw0 : List (Addr × Obj)) : Con w 836 16 (pesC nw0 "<1;3;4>") (elOutN nw0 (.set [1, 3, 4])) := by
  unfold Con
  k_fill
  intro loose mean mg mb dp un gd cn cs a ccd cl outer A₀ base h₀ L m news s R args vw B F X N T hk hpre hdd hu hret
  obtain ⟨rfl, t, rfl⟩ := hpre
  refine' code_defC (binds := [(Str.ofString "cls", .ref 847), (Str.ofString "d", .str (Str.ofString "<1;3;4>") t), (Str.ofString "allow_hardened", .bool false), (Str.ofString "allow_set", .bool true)]) ?k1 ?k2 ?k3 ?k4 ?k5 ?kA ?kF ?kK ?k6 ?k7 ?k8 ?k9 ?kB ?kD ?_ ?c2 ?c3 ?c4
  (case kA => exact rfl); (case kF => exact rfl); (case kK => assumption); (case k1 => exact B); (case k2 => exact F); (case k3 => exact X); (case k4 => exact N); (case k5 => exact T); (case k6 => k_is); (case k7 => k_is); (case k8 => show dp < _; omega)
  (case k9 => exact binds_K (by k_in) rfl (by k_is) rfl rfl rfl); (case kB => exact rfl); (case kD => decide +kernel); (case c2 => exact rfl); (case c3 => exact rfl); (case c4 => exact rfl)
  intro g' L' h' tk' cells' FG' F' N' Y' B' X' T' l1
  obtain ⟨o1, o2, rfl, d1, d2⟩ := Y'.two
  clear Y'
  simp only [List.cons_append, List.nil_append] at N'
  k_steps
  refine ⟨call_meth (by k_asm) (by k_mem) (pei1 w loose mean mg mb _ _ _ _ _ _ _ _ _ _ _ _ _ _ _ _ _ _ B' (by k_asm) X' (by k_asm) T' rfl ⟨_, _, _, by decide +kernel, .inr rfl⟩ ?_ ?_ ?_)⟩
  · show dp + 1 + 8 < _
    omega
  · show un + 3 + 8 * 8 < _
    omega
  intro r1 tl1 h1 tk1 F1 N1 hD1 ho1
  replace N1 := N1.right
  cases ho1
  dsimp only
  refine LCg.CompEnd.intro (by assumption) N1 _ (fun p hp => List.mem_cons_of_mem _ hp) (by first | assumption | (simp only [LCg.Off3, and_true]; assumption)) (by exact Or.inr ⟨_, by k_mem, rfl, _, rfl⟩) ?_
  clear F1 N1 hD1
  k_unmd
  k_steps
  refine ⟨call_meth (by k_asm) (by k_mem) (pei3 w loose mean mg mb _ _ _ _ _ _ _ _ _ _ _ _ _ _ _ _ _ _ B' (by k_asm) X' (by k_asm) T' rfl ⟨_, _, _, by decide +kernel, .inr rfl⟩ ?_ ?_ ?_)⟩
  · show dp + 1 + 8 < _
    omega
  · show un + 3 + 8 * 8 < _
    omega
  intro r1 tl1 h1 tk1 F1 N1 hD1 ho1
  replace N1 := N1.right
  cases ho1
  dsimp only
  refine LCg.CompEnd.intro (by assumption) N1 _ (fun p hp => List.mem_cons_of_mem _ hp) (by first | assumption | (simp only [LCg.Off3, and_true]; assumption)) (by exact Or.inr ⟨_, by k_mem, rfl, _, rfl⟩) ?_
  clear F1 N1 hD1
  k_unmd
  k_steps
  refine ⟨call_meth (by k_asm) (by k_mem) (pei4 w loose mean mg mb _ _ _ _ _ _ _ _ _ _ _ _ _ _ _ _ _ _ B' (by k_asm) X' (by k_asm) T' rfl ⟨_, _, _, by decide +kernel, .inr rfl⟩ ?_ ?_ ?_)⟩
  · show dp + 1 + 8 < _
    omega
  · show un + 3 + 8 * 8 < _
    omega
  intro r1 tl1 h1 tk1 F1 N1 hD1 ho1
  replace N1 := N1.right
  cases ho1
  dsimp only
  refine LCg.CompEnd.intro (by assumption) N1 _ (fun p hp => List.mem_cons_of_mem _ hp) (by first | assumption | (simp only [LCg.Off3, and_true]; assumption)) (by exact Or.inr ⟨_, by k_mem, rfl, _, rfl⟩) ?_
  clear F1 N1 hD1
  k_unmd
  k_steps
  have h9 := And.right (And.right (And.right (by assumption : _ ∧ _ ∧ _ ∧ LCg.Off1 _ news)))
  exact ret_any hret elOutN_mono (tl := [_, _, _, _]) (by k_asm) (by k_asm) ⟨.set (.head _) (.cons _ _ (.cons _ _ (.cons _ _ .nil))), fun a e p hp => by cases e; exact off1_mem h9 p hp⟩
set_option maxRecDepth 100000 in
set_option maxHeartbeats 8000000 in
theorem pes402 (w : World) (nw0 : List (Addr × Obj)) : Con w 836 16 (pesC nw0 "<4;0;2>") (elOutN nw0 (.set [4, 0, 2])) := by
  unfold Con
  k_fill
  intro loose mean mg mb dp un gd cn cs a ccd cl outer A₀ base h₀ L m news s R args vw B F X N T hk hpre hdd hu hret
  obtain ⟨rfl, t, rfl⟩ := hpre
  refine' code_defC (binds := [(Str.ofString "cls", .ref 847), (Str.ofString "d", .str (Str.ofString "<4;0;2>") t), (Str.ofString "allow_hardened", .bool false), (Str.ofString "allow_set", .bool true)]) ?k1 ?k2 ?k3 ?k4 ?k5 ?kA ?kF ?kK ?k6 ?k7 ?k8 ?k9 ?kB ?kD ?_ ?c2 ?c3 ?c4
  (case kA => exact rfl); (case kF => exact rfl); (case kK => assumption); (case k1 => exact B); (case k2 => exact F); (case k3 => exact X); (case k4 => exact N); (case k5 => exact T); (case k6 => k_is); (case k7 => k_is); (case k8 => show dp < _; omega)
  (case k9 => exact binds_K (by k_in) rfl (by k_is) rfl rfl rfl); (case kB => exact rfl); (case kD => decide +kernel); (case c2 => exact rfl); (case c3 => exact rfl); (case c4 => exact rfl)
  intro g' L' h' tk' cells' FG' F' N' Y' B' X' T' l1
  obtain ⟨o1, o2, rfl, d1, d2⟩ := Y'.two
  clear Y'
  simp only [List.cons_append, List.nil_append] at N'
  k_steps
  refine ⟨call_meth (by k_asm) (by k_mem) (pei4 w loose mean mg mb _ _ _ _ _ _ _ _ _ _ _ _ _ _ _ _ _ _ B' (by k_asm) X' (by k_asm) T' rfl ⟨_, _, _, by decide +kernel, .inr rfl⟩ ?_ ?_ ?_)⟩
  · show dp + 1 + 8 < _
    omega
  · show un + 3 + 8 * 8 < _
    omega
  intro r1 tl1 h1 tk1 F1 N1 hD1 ho1
  replace N1 := N1.right
  cases ho1
  dsimp only
  refine LCg.CompEnd.intro (by assumption) N1 _ (fun p hp => List.mem_cons_of_mem _ hp) (by first | assumption | (simp only [LCg.Off3, and_true]; assumption)) (by exact Or.inr ⟨_, by k_mem, rfl, _, rfl⟩) ?_
  clear F1 N1 hD1
  k_unmd
  k_steps
  refine ⟨call_meth (by k_asm) (by k_mem) (pei0 w loose mean mg mb _ _ _ _ _ _ _ _ _ _ _ _ _ _ _ _ _ _ B' (by k_asm) X' (by k_asm) T' rfl ⟨_, _, _, by decide +kernel, .inr rfl⟩ ?_ ?_ ?_)⟩
  · show dp + 1 + 8 < _
    omega
  · show un + 3 + 8 * 8 < _
    omega
  intro r1 tl1 h1 tk1 F1 N1 hD1 ho1
  replace N1 := N1.right
  cases ho1
  dsimp only
  refine LCg.CompEnd.intro (by assumption) N1 _ (fun p hp => List.mem_cons_of_mem _ hp) (by first | assumption | (simp only [LCg.Off3, and_true]; assumption)) (by exact Or.inr ⟨_, by k_mem, rfl, _, rfl⟩) ?_
  clear F1 N1 hD1
  k_unmd
  k_steps
  refine ⟨call_meth (by k_asm) (by k_mem) (pei2 w loose mean mg mb _ _ _ _ _ _ _ _ _ _ _ _ _ _ _ _ _ _ B' (by k_asm) X' (by k_asm) T' rfl ⟨_, _, _, by decide +kernel, .inr rfl⟩ ?_ ?_ ?_)⟩
  · show dp + 1 + 8 < _
    omega
  · show un + 3 + 8 * 8 < _
    omega
  intro r1 tl1 h1 tk1 F1 N1 hD1 ho1
  replace N1 := N1.right
  cases ho1
  dsimp only
  refine LCg.CompEnd.intro (by assumption) N1 _ (fun p hp => List.mem_cons_of_mem _ hp) (by first | assumption | (simp only [LCg.Off3, and_true]; assumption)) (by exact Or.inr ⟨_, by k_mem, rfl, _, rfl⟩) ?_
  clear F1 N1 hD1
  k_unmd
  k_steps
  have h9 := And.right (And.right (And.right (by assumption : _ ∧ _ ∧ _ ∧ LCg.Off1 _ news)))
  exact ret_any hret elOutN_mono (tl := [_, _, _, _]) (by k_asm) (by k_asm) ⟨.set (.head _) (.cons _ _ (.cons _ _ (.cons _ _ .nil))), fun a e p hp => by cases e; exact off1_mem h9 p hp⟩
def peP (nw0 : List (Addr × Obj)) (e : El) (_ : Heap) (news : List (Addr × Obj)) (args : Args) : Prop :=
  news = nw0 ∧ ∃ t, args = ⟨[.ref 847, .str (pc e) t, .bool false, .bool true], []⟩
theorem pe_int (w : World) (nw0 : List (Addr × Obj)) (e : El) (y : String) (c : Con w 836 8 (peiC y) (elOut e)) (he : pc e = Str.ofString y) (hn : ∀ a nw, ¬ ElIn nw (.ref a) e) : Con w 836 16 (peP nw0 e) (elOutN nw0 e) :=
  c.weaken (by decide) (fun _ _ _ ⟨_, t, h⟩ => ⟨_, t, true, rfl, .inl (by rw [h, he])⟩) fun nw r h => ⟨h, fun a e' => by subst e'; exact absurd h (hn a nw)⟩
theorem pe_set (w : World) (nw0 : List (Addr × Obj)) (xs : List Int) (y : String) (c : Con w 836 16 (pesC nw0 y) (elOutN nw0 (.set xs))) (he : pc (.set xs) = Str.ofString y) : Con w 836 16 (peP nw0 (.set xs)) (elOutN nw0 (.set xs)) :=
  c.weaken (Nat.le_refl _) (fun _ _ _ ⟨h1, t, h⟩ => ⟨h1, t, by rw [h, he]⟩) fun _ _ h => h
theorem pe_con (w : World) (nw0 : List (Addr × Obj)) (e : El) (h : e.ok) : Con w 836 16 (peP nw0 e) (elOutN nw0 e) := by
  cases e with
  | none => exact pe_int w nw0 _ "*" (pestar w) (by decide +kernel) fun a nw h => by cases h
  | int i =>
    have : i = 0 ∨ i = 1 ∨ i = 2 ∨ i = 3 ∨ i = 4 := by have := h.1; have := h.2; omega
    rcases this with rfl | rfl | rfl | rfl | rfl
    · exact pe_int w nw0 _ "0" (pei0 w) (by decide +kernel) fun a nw h => by cases h
    · exact pe_int w nw0 _ "1" (pei1 w) (by decide +kernel) fun a nw h => by cases h
    · exact pe_int w nw0 _ "2" (pei2 w) (by decide +kernel) fun a nw h => by cases h
    · exact pe_int w nw0 _ "3" (pei3 w) (by decide +kernel) fun a nw h => by cases h
    · exact pe_int w nw0 _ "4" (pei4 w) (by decide +kernel) fun a nw h => by cases h
  | set xs =>
    simp only [El.ok, menu, List.mem_cons, List.not_mem_nil, or_false] at h
    rcases h with rfl | rfl | rfl | rfl
    · exact pe_set w nw0 _ _ (pes01 w nw0) (by decide +kernel)
    · exact pe_set w nw0 _ _ (pes20 w nw0) (by decide +kernel)
    · exact pe_set w nw0 _ _ (pes134 w nw0) (by decide +kernel)
    · exact pe_set w nw0 _ _ (pes402 w nw0) (by decide +kernel)
end Mine
namespace Mine
local macro_rules | `(tactic| walk_at "idle") => `(tactic| skip)
theorem rest_ind {prog : Program} {w : World} {A : Around} {h₀ : Heap} {L : Addr} {m : Str → Option Value} {env : Env} {elt : Expr} {x : Str} {scope : Scope} {cl : List (Str × Addr)} {s : Shared} {S : List (Addr × Obj) → Prop} {P : Nat → Value → Prop} {Fin : List Value → List (Addr × Obj) → Prop} {news : List (Addr × Obj)} {n : Nat}
    (Inv : Nat → List Value → List (Addr × Obj) → Prop) (h0 : Inv 0 [] news)
    (step : ∀ i ys nw v I oI C oC D m₂ h tk (E' : Value → Shared → Prop), i < n → Inv i ys nw → P i v → LCg.NsObj oC m₂ → m₂ x = some v → Fr h₀ L h m → News h₀ L h ((I, oI) :: (C, oC) :: (D, LCg.lst ys) :: nw) → LCg.Off3 I C D nw → ((@Ne Nat I C) ∧ (@Ne Nat I D) ∧ (@Ne Nat C D)) →
      wpAny (model prog w) A (eval elt (compEnvC scope cl C env)) (LCg.CompEnd h₀ L m { s with heap := h, toks := tk } I oI C oC D (LCg.lst ys) S (fun y nw' => Inv (i + 1) (ys ++ [y]) nw')) E' { s with heap := h, toks := tk })
    (fin : ∀ ys nw, Inv n ys nw → Fin ys nw) : LCg.CompRest prog w A h₀ L m env elt x scope cl s S P Fin n 0 [] news := by
  have key : ∀ k i ys nw, i + k = n → Inv i ys nw → LCg.CompRest prog w A h₀ L m env elt x scope cl s S P Fin k i ys nw := by
    intro k
    induction k with
    | zero =>
      intro i ys nw hi hv
      refine LCg.CompRest.zero (fin _ _ ?_)
      have : i = n := hi
      exact this ▸ hv
    | succ k ih =>
      intro i ys nw hi hv
      refine LCg.CompRest.succ ?_
      intro v I oI C oC D m₂ h tk E' hP hC hx F N off ne
      refine wpAny_mono (step i ys nw v I oI C oC D m₂ h tk E' (by omega) hv hP hC hx F N off ne) (fun y s' hy => ?_) fun _ _ e => e
      obtain ⟨h', tk', nw', e1, e2, e3, e4, e5, e6⟩ := hy
      exact ⟨h', tk', nw', e1, e2, e3, e4, e5, ih (i + 1) _ _ (by omega) e6⟩
  exact key n 0 [] news (Nat.zero_add n) h0
def fsPre (y : Str) (_ : Heap) (_ : List (Addr × Obj)) (args : Args) : Prop := ∃ t, args = ⟨[.ref 847, .str y t], []⟩
local macro_rules | `(tactic| k_mem) => `(tactic| first | assumption | (refine List.mem_cons_of_mem _ ?_; k_mem) | (refine List.mem_append.mpr (Or.inl ?_); k_mem) | (refine List.mem_append.mpr (Or.inr ?_); k_mem) | exact List.mem_cons_self ..)
local macro_rules | `(tactic| walk_at "call ref") => `(tactic| ((with_reducible show wpAny _ _ (call (Value.ref _) _ _) _ _ _); refine Stop.out ?_))
local macro_rules | `(tactic| walk_at "CompSrc") => `(tactic| (refine Stop.out ?_))
set_option maxRecDepth 100000 in
set_option maxHeartbeats 8000000 in
theorem fs_con (w : World) (els : List El) (y : Str) (hne : y.length ≠ 0) (hyl : y.length ≤ 100) (hsp : Txt.split y (Str.ofString "/") = els.map pc) (hlen : els.length ≤ 100) (hok : ∀ e ∈ els, e.ok) (h1 : (els.filter El.isNone).length ≤ 1) (h2 : (els.filter El.isSet).length ≤ 1) : Con w 827 24 (fsPre y) (derOut w els) := by
  unfold Con
  k_fill
  intro loose mean mg mb dp un gd cn cs a ccd cl outer A₀ base h₀ L m news s R args vw B F X N T hk hpre hdd hu hret
  obtain ⟨t, rfl⟩ := hpre
  refine' code_defC (binds := [(Str.ofString "cls", .ref 847), (Str.ofString "der", .str y t), (Str.ofString "allow_hardened", .bool false), (Str.ofString "allow_set", .bool true)]) ?k1 ?k2 ?k3 ?k4 ?k5 ?kA ?kF ?kK ?k6 ?k7 ?k8 ?k9 ?kB ?kD ?_ ?c2 ?c3 ?c4
  (case kA => exact rfl); (case kF => exact rfl); (case kK => assumption); (case k1 => exact B); (case k2 => exact F); (case k3 => exact X); (case k4 => exact N); (case k5 => exact T); (case k6 => k_is); (case k7 => k_is); (case k8 => show dp < _; omega)
  (case k9 => exact binds_K (by k_in) rfl (by k_is) rfl rfl rfl); (case kB => exact rfl); (case kD => decide +kernel); (case c2 => exact rfl); (case c3 => exact rfl); (case c4 => exact rfl)
  intro g' L' h' tk' cells' FG' F' N' Y' B' X' T' l1
  obtain ⟨o1, o2, o3, rfl, d1, d2, d3⟩ := Y'.three
  clear Y'
  simp only [List.cons_append, List.nil_append] at N'
  k_steps
  · omega
  rename_i hsz hmap hstr hle hlist F1 N1
  rw [hmap, hsp] at hstr
  have hl0 := hstr.length
  rw [List.length_map] at hl0
  refine ⟨LCg.CompSrc.ledger (by rfl) F1 N1 (List.mem_cons_self ..) (by show _ ≤ 2 ^ 24; rw [List.size_toArray]; omega) fun g => ?_⟩
  refine rest_ind (fun i ys nw => ∃ rest, nw = _ :: _ :: _ :: _ :: rest ∧ ElsIn rest ys (els.take i) ∧ ∀ p ∈ news, p ∈ rest) ⟨news, rfl, .nil, fun _ h => h⟩ ?_ ?_
  · rintro i ys nw v I oI C oC D m₂ h tk E' hi ⟨rest, rfl, hE, hin⟩ hP hC hx F2 N2 off ne
    obtain ⟨yv, tv, rfl, hyv⟩ := hstr.item i v (by simpa using hP)
    rw [List.getElem?_map] at hyv
    obtain ⟨el, hel, rfl⟩ := Option.map_eq_some_iff.mp hyv
    have hok1 := hok el (List.mem_of_getElem? hel)
    clear F1 N1 hlist
    k_steps
    refine ⟨call_meth (by k_asm) (by k_mem) (pe_con w _ el hok1 loose mean mg mb _ _ _ _ _ _ _ _ _ _ _ _ _ _ _ _ _ _ B' (by k_asm) X' (by k_asm) T' rfl ⟨rfl, _, rfl⟩ ?_ ?_ ?_)⟩
    · show dp + 1 + 16 < _
      omega
    · show un + 3 + 8 * 16 < _
      omega
    intro r1 tl1 h1 tk1 F3 N3 hD1 ho1
    refine LCg.CompEnd.intro F3 N3 (_ :: _ :: _ :: _ :: (tl1 ++ rest)) ?_ ?_ (by exact Or.inr ⟨_, List.mem_cons_self .., rfl, _, rfl⟩) ⟨tl1 ++ rest, rfl, ?_, ?_⟩
    · intro p hp
      simp only [List.mem_cons, List.mem_append] at hp ⊢
      rcases hp with hp | hp | hp | hp | hp | hp | hp | hp | hp <;> simp only [hp, true_or, or_true]
    · simp only [LCg.Off3, and_true] at off ⊢
      refine ⟨off.1, off.2.1, off.2.2.1, off.2.2.2.1, LCg.Off3.of fun p hp => ?_⟩
      rcases List.mem_append.mp hp with hp | hp
      · exact ⟨hD1 p hp (I, oI) (by k_mem), hD1 p hp (C, oC) (by k_mem), hD1 p hp (D, LCg.lst ys) (by k_mem)⟩
      · exact off.2.2.2.2.mem p hp
    · rw [List.take_add_one, hel]
      refine (hE.mono fun p hp => List.mem_append.mpr (.inr hp)).append ?_
      obtain ⟨hE1, hfr⟩ := ho1
      refine .cons ?_ .nil
      cases hE1 with
      | none => exact .none
      | int i t => exact .int i t
      | set h3 h4 =>
        refine .set (List.mem_append.mpr (.inl ((List.mem_append.mp h3).resolve_right fun h5 => ?_))) h4
        exact hfr _ rfl _ h5 rfl
    · exact fun p hp => List.mem_append.mpr (.inr (hin p hp))
  · rintro ys nw ⟨rest, rfl, hE, hin⟩
    rw [List.take_of_length_le (by rw [List.size_toArray, hl0]; exact Nat.le_refl _)] at hE
    unfold LCg.FinA
    intro D' h' tk' F2 N2 o1'
    (try simp only [LCg.Off1, and_true] at o1')
    k_steps
    refine ⟨wpAny_call (init_con w D' ys els (by omega) h1 h2 loose mean mg mb _ _ _ _ _ _ _ _ _ _ _ _ _ _ _ _ _ _ B' (by k_asm) X' (by k_asm) T' rfl ⟨_, List.mem_cons_self .., hE.mono fun p hp => (by k_mem), rfl⟩ ?_ ?_ ?_)⟩
    · show dp + 1 + 8 < _
      omega
    · show un + 3 + 8 * 8 < _
      omega
    intro r tl h1' tk1 F3 N3 hD1 ho
    obtain ⟨x2, dx2, rfl, hd2⟩ := ho
    clear F2 N2
    k_steps
    rename_i kF kN _ _
    refine ret_any hret (fun l l' r hs ho => by obtain ⟨x, dx, l, vs, e, h⟩ := ho; exact ⟨x, dx, l, vs, e, h.mono hs⟩) kF (fun p hp => ?_) ⟨x2, dx2, D', ys, rfl, hd2.mono fun p hp => List.mem_append.mpr (.inl hp)⟩
    rcases List.mem_append.mp hp with hp | hp
    · exact kN p hp
    · exact kN p (List.mem_append.mpr (.inr (List.mem_cons_of_mem _ (List.mem_cons_of_mem _ (List.mem_cons_of_mem _ (List.mem_cons_of_mem _ (List.mem_cons_of_mem _ (hin p hp))))))))
end Mine
namespace Mine
def num (ns : List Int) (p : Int) : Int := (if ns = [] then 0 else ns.getD (Int.fmod p ns.length).toNat 0) + 7 * p
def numPre (l : Addr) (vs : List Value) (p : Int) (base : Heap) (_ : List (Addr × Obj)) (args : Args) : Prop := base.IsList l vs.toArray ∧ ∃ tp, args = ⟨[.ref l, .int p tp], []⟩
def numOut (ns : List Int) (p : Int) (_ : List (Addr × Obj)) (r : Value) : Prop := ∃ t, r = .int (num ns p) t
set_option maxRecDepth 100000 in
set_option maxHeartbeats 8000000 in
theorem num_con (w : World) (l : Addr) (vs : List Value) (ns : List Int) (hi : IntsAre vs ns) (hlen : ns.length ≤ 63) (p : Int) (h0 : 0 ≤ p) (h1 : p < 1000) : Con w 856 8 (numPre l vs p) (numOut ns p) := by
  unfold Con
  k_fill
  intro loose mean mg mb dp un gd cn cs a ccd cl outer A₀ base h₀ L m news s R args vw B F X N T hk hpre hdd hu hret
  obtain ⟨hl, tp, rfl⟩ := hpre
  refine' code_def ?k1 ?k2 ?k3 ?k4 ?k5 ?kA ?kF ?kK ?k6 ?k7 ?k8 ?k9 ?kB ?_ ?c2 ?c3 ?c4 ?c5
  (case kA => exact rfl); (case kF => exact rfl); (case kK => assumption); (case k1 => exact B); (case k2 => exact F); (case k3 => exact X); (case k4 => exact N); (case k5 => exact T); (case k6 => k_is); (case k7 => k_is); (case k8 => show dp < _; omega)
  (case k9 => exact BindsTo.of_eq rfl); (case c5 => decide); (case kB => exact locs rfl); (case c2 => exact rfl); (case c3 => exact rfl); (case c4 => exact rfl)
  intro g' L' h' FG' F' N' B' X' T'
  replace F' := frC (fun q => if q = Str.ofString "place" then some (Value.int p tp) else if q = Str.ofString "script" then some (Value.ref l) else none) F' fun q => by
    show _ = List.lookup q [(Str.ofString "place", Value.int p tp), (Str.ofString "script", Value.ref l)]
    simp only [lk_cons, lk_nil]
  k_lift B'
  clear hl
  k_steps
  · have e : num ns p = ns.getD (p.fmod ↑ns.length).toNat 0 + 7 * p := by
      unfold num
      rw [if_neg (by rintro rfl; exact absurd (by assumption : 0 < ([] : List Int).length) (Nat.lt_irrefl 0))]
    exact ret_any hret (fun _ _ _ _ h => h) (tl := []) (by k_asm) (by k_asm) ⟨_, by rw [e]⟩
  · have e : num ns p = 0 + 7 * p := by
      unfold num
      rw [if_pos (List.eq_nil_of_length_eq_zero (by omega))]
    exact ret_any hret (fun _ _ _ _ h => h) (tl := []) (by k_asm) (by k_asm) ⟨_, by rw [e]⟩
theorem num_use {w : World} {vw : Program} {loose : List Str} {mean : ExcName → Option Value} {mg mb : Str → Option Value} {dp un : Nat} {gd : Option (List Code)} {cn : Str} {cs : Scope} {a : Addr} {ccd : Value} {cl : List (Str × Addr)} {outer : List Env} {A₀ : Around} {base h₀ : Heap} {L : Addr} {m : Str → Option Value} {news : List (Addr × Obj)} {s : Shared}
    {Q E : Value → Shared → Prop} {l : Addr} {vs : List Value} {ns : List Int} {p : Int} {tp : Tok}
    (hl : base.IsList l vs.toArray) (hi : IntsAre vs ns) (hlen : ns.length ≤ 63)
    (B : Below A₀ base outer h₀) (F : Fr h₀ L s.heap m) (X : (pre.heap_1 w.params).In h₀) (N : News h₀ L s.heap news) (T : Top vw loose mean mg mb h₀) (hk : cs.kind = .function) (h0 : 0 ≤ p) (h1 : p < 1000) (hdd : dp + 8 < recursionLimit) (hu : un + 8 * 8 < cLine)
    (h : ∀ t h' tk', Fr h₀ L h' m → News h₀ L h' news → Q (.int (num ns p) t) { s with heap := h', toks := tk' }) :
    wpAny (model PySem.Challenge.rw_ai0021_01.row.prog w) (ktrTop dp un gd cn cs L a ccd cl outer) (call (.ref 856) [.ref l, .int p tp]) Q E s :=
  wpAny_call (num_con w l vs ns hi hlen p h0 h1 loose mean mg mb dp un gd cn cs a ccd cl outer A₀ base h₀ L m news s _ _ B F X N T hk ⟨hl, _, rfl⟩ hdd hu fun r tl h' tk' F' N' _ ho => by obtain ⟨t, rfl⟩ := ho; exact h t h' tk' F' N'.right)
end Mine
namespace Mine
structure LawIn (els : List El) (c wd : Nat) (brs : List Int) (hs : Bool) : Prop where
  len : els.length = c
  ok : ∀ e ∈ els, e.ok
  none : ∀ i : Nat, els[i]? = some El.none ↔ i = wd ∧ wd < c
  set : ∀ (i : Nat) xs, els[i]? = some (El.set xs) → xs = brs
  one : ∀ (i j : Nat) xs ys, els[i]? = some (El.set xs) → els[j]? = some (El.set ys) → i = j
  some : hs = true ↔ ∃ i : Nat, els[i]? = some (El.set brs)
theorem filter_one {α : Type} (p : α → Bool) : ∀ (l : List α), (∀ (i j : Nat) (x y : α), l[i]? = some x → l[j]? = some y → p x = true → p y = true → i = j) → (l.filter p).length ≤ 1
  | [], _ => Nat.zero_le _
  | x :: l, h => by
    by_cases hx : p x = true
    · have e : l.filter p = [] := by
        rw [List.filter_eq_nil_iff]
        intro y hy hp
        obtain ⟨i, hi⟩ := List.getElem?_of_mem hy
        have := h 0 (i + 1) x y rfl (by simpa using hi) hx hp
        omega
      rw [List.filter_cons_of_pos hx, e]
      exact Nat.le_refl 1
    · rw [List.filter_cons_of_neg hx]
      refine filter_one p l fun i j a b ha hb pa pb => ?_
      have := h (i + 1) (j + 1) a b (by simpa using ha) (by simpa using hb) pa pb
      omega
theorem LawIn.nones {els : List El} {c wd : Nat} {brs : List Int} {hs : Bool} (h : LawIn els c wd brs hs) : (els.filter El.isNone).length ≤ 1 := by
  refine filter_one _ els fun i j x y hx hy px py => ?_
  cases x <;> cases px
  cases y <;> cases py
  exact ((h.none i).mp hx).1.trans ((h.none j).mp hy).1.symm
theorem LawIn.sets {els : List El} {c wd : Nat} {brs : List Int} {hs : Bool} (h : LawIn els c wd brs hs) : (els.filter El.isSet).length ≤ 1 := by
  refine filter_one _ els fun i j x y hx hy px py => ?_
  cases x <;> cases px
  cases y <;> cases py
  exact h.one i j _ _ hx hy
theorem law_in {is : List Int} {c at' wd : Nat} {brs : List Int} {hs hs2 : Bool} {els els2 : List El} (hl : is.length = c) (hb : ∀ i ∈ is, 0 ≤ i ∧ i < 5) (hat : at' < c) (hbrs : brs ∈ menu)
    (h0 : els = if hs = true then (is.map El.int).set at' (El.set brs) else is.map El.int) (h1 : els2 = if wd < c then els.set wd El.none else els) (h2 : hs2 = (hs && decide (wd ≠ at'))) : LawIn els2 c wd brs hs2 := by
  have e0 : els.length = c := by rw [h0]; split <;> simp [hl]
  have len : els2.length = c := by rw [h1]; split <;> simp [e0]
  have k0 : ∀ i : Nat, els[i]? = if hs = true ∧ i = at' then some (El.set brs) else (is[i]?).map El.int := by
    intro i
    rw [h0]
    by_cases hh : hs = true
    · rw [if_pos hh, List.getElem?_set]
      by_cases hi : at' = i
      · rw [if_pos hi, if_pos (by simpa [hl] using hat), if_pos ⟨hh, hi.symm⟩]
      · rw [if_neg hi, if_neg (fun x => hi x.2.symm), List.getElem?_map]
    · rw [if_neg hh, if_neg (fun x => hh x.1), List.getElem?_map]
  have key : ∀ i : Nat, els2[i]? = if i = wd ∧ wd < c then some El.none else if hs = true ∧ i = at' then some (El.set brs) else (is[i]?).map El.int := by
    intro i
    rw [← k0 i, h1]
    by_cases hw : wd < c
    · rw [if_pos hw, List.getElem?_set]
      by_cases hi : wd = i
      · rw [if_pos hi, if_pos (by rw [e0]; exact hw), if_pos ⟨hi.symm, hw⟩]
      · rw [if_neg hi, if_neg (fun x => hi x.1.symm)]
    · rw [if_neg hw, if_neg (fun x => hw x.2)]
  have noInt : ∀ (i : Nat) (e : El), (is[i]?).map El.int = some e → ∃ j, e = El.int j ∧ 0 ≤ j ∧ j < 5 := by
    intro i e he
    obtain ⟨j, hj, rfl⟩ := Option.map_eq_some_iff.mp he
    exact ⟨j, rfl, hb j (List.mem_of_getElem? hj)⟩
  have setAt : ∀ (i : Nat) xs, els2[i]? = some (El.set xs) → hs = true ∧ i = at' ∧ xs = brs ∧ ¬ (i = wd ∧ wd < c) := by
    intro i xs hx
    rw [key i] at hx
    by_cases h3 : i = wd ∧ wd < c
    · rw [if_pos h3] at hx; cases hx
    · rw [if_neg h3] at hx
      by_cases h4 : hs = true ∧ i = at'
      · rw [if_pos h4] at hx; cases hx; exact ⟨h4.1, h4.2, rfl, h3⟩
      · rw [if_neg h4] at hx
        obtain ⟨j, e, _⟩ := noInt i _ hx
        cases e
  refine ⟨len, ?_, ?_, fun i xs hx => (setAt i xs hx).2.2.1, fun i j xs ys hx hy => (setAt i xs hx).2.1.trans (setAt j ys hy).2.1.symm, ?_⟩
  · intro e he
    obtain ⟨i, hi⟩ := List.getElem?_of_mem he
    rw [key i] at hi
    by_cases h3 : i = wd ∧ wd < c
    · rw [if_pos h3] at hi; cases hi; exact True.intro
    · rw [if_neg h3] at hi
      by_cases h4 : hs = true ∧ i = at'
      · rw [if_pos h4] at hi; cases hi; exact hbrs
      · rw [if_neg h4] at hi
        obtain ⟨j, rfl, h5, h6⟩ := noInt i _ hi
        exact ⟨h5, h6⟩
  · intro i
    constructor
    · intro hi
      rw [key i] at hi
      by_cases h3 : i = wd ∧ wd < c
      · exact h3
      · rw [if_neg h3] at hi
        by_cases h4 : hs = true ∧ i = at'
        · rw [if_pos h4] at hi; cases hi
        · rw [if_neg h4] at hi
          obtain ⟨j, e, _⟩ := noInt i _ hi
          cases e
    · intro h3
      rw [key i, if_pos h3]
  · rw [h2]
    constructor
    · intro h3
      have h4 : hs = true := by cases hs <;> first | rfl | cases h3
      have h5 : wd ≠ at' := by rw [h4, Bool.true_and] at h3; exact of_decide_eq_true h3
      refine ⟨at', ?_⟩
      rw [key at', if_neg (fun x => h5 x.1.symm), if_pos ⟨h4, rfl⟩]
    · rintro ⟨i, hi⟩
      obtain ⟨h3, h4, _, h5⟩ := setAt i _ hi
      rw [h3, Bool.true_and]
      refine decide_eq_true fun h6 => h5 ⟨by rw [h4, h6], by rw [h6]; exact hat⟩
end Mine
namespace Mine
structure Far (L : Nat) (own : List (Addr × Obj)) : Prop where
  out : ∀ p ∈ own, @LT.lt Nat _ (L + 8) p.1 ∨ @LT.lt Nat _ p.1 (L + 1)
theorem Far.ne {L c : Nat} {own : List (Addr × Obj)} (h : Far L own) (hc : c ≤ L + 8) (h1 : L + 1 ≤ c) : ∀ p ∈ own, p.1 ≠ c := fun p hp e => by
  rcases h.out p hp with h2 | h2
  · exact Nat.not_lt.mpr hc (e ▸ h2)
  · exact Nat.not_lt.mpr h1 (e ▸ h2)
abbrev cel (L : Nat) (o8 o7 o6 o5 o4 o3 o2 o1 : Obj) : List (Addr × Obj) :=
  [(L + 1 + 1 + 1 + 1 + 1 + 1 + 1 + 1, o8), (L + 1 + 1 + 1 + 1 + 1 + 1 + 1, o7), (L + 1 + 1 + 1 + 1 + 1 + 1, o6), (L + 1 + 1 + 1 + 1 + 1, o5), (L + 1 + 1 + 1 + 1, o4), (L + 1 + 1 + 1, o3), (L + 1 + 1, o2), (L + 1, o1)]
theorem mem_mv2 {own cells tl : List (Addr × Obj)} {p : Addr × Obj} (hp : p ∈ cells ++ (tl ++ own)) : p ∈ tl ++ (cells ++ own) := by
  rcases List.mem_append.mp hp with hp | hp
  · exact List.mem_append.mpr (.inr (List.mem_append.mpr (.inl hp)))
  · rcases List.mem_append.mp hp with hp | hp
    · exact List.mem_append.mpr (.inl hp)
    · exact List.mem_append.mpr (.inr (List.mem_append.mpr (.inr hp)))
theorem far_of {L : Nat} {o8 o7 o6 o5 o4 o3 o2 o1 : Obj} {a : Nat} (h : ∀ q ∈ cel L o8 o7 o6 o5 o4 o3 o2 o1, @Ne Nat a q.1) : @LT.lt Nat _ (L + 8) a ∨ @LT.lt Nat _ a (L + 1) := by
  have h8 : a ≠ L + 1 + 1 + 1 + 1 + 1 + 1 + 1 + 1 := h _ (.head _)
  have h7 : a ≠ L + 1 + 1 + 1 + 1 + 1 + 1 + 1 := h _ (.tail _ (.head _))
  have h6 : a ≠ L + 1 + 1 + 1 + 1 + 1 + 1 := h _ (.tail _ (.tail _ (.head _)))
  have h5 : a ≠ L + 1 + 1 + 1 + 1 + 1 := h _ (.tail _ (.tail _ (.tail _ (.head _))))
  have h4 : a ≠ L + 1 + 1 + 1 + 1 := h _ (.tail _ (.tail _ (.tail _ (.tail _ (.head _)))))
  have h3 : a ≠ L + 1 + 1 + 1 := h _ (.tail _ (.tail _ (.tail _ (.tail _ (.tail _ (.head _))))))
  have h2 : a ≠ L + 1 + 1 := h _ (.tail _ (.tail _ (.tail _ (.tail _ (.tail _ (.tail _ (.head _)))))))
  have h1 : a ≠ L + 1 := h _ (.tail _ (.tail _ (.tail _ (.tail _ (.tail _ (.tail _ (.tail _ (.head _))))))))
  omega
/-- nothing here is a cell -/
def NoCell (o : Obj) : Prop := ∀ v, o.data ≠ .cell v
theorem cel_data {L : Nat} {o8 o7 o6 o5 o4 o3 o2 o1 : Obj} {v8 v7 v6 v5 v4 v3 v2 v1 : Option Value} (d8 : o8.data = .cell v8) (d7 : o7.data = .cell v7) (d6 : o6.data = .cell v6) (d5 : o5.data = .cell v5) (d4 : o4.data = .cell v4) (d3 : o3.data = .cell v3) (d2 : o2.data = .cell v2) (d1 : o1.data = .cell v1) :
    ∀ p ∈ cel L o8 o7 o6 o5 o4 o3 o2 o1, ∃ v, p.2.data = .cell v := by
  intro p hp
  simp only [cel, List.mem_cons, List.not_mem_nil, or_false] at hp
  rcases hp with rfl | rfl | rfl | rfl | rfl | rfl | rfl | rfl
  · exact ⟨_, d8⟩
  · exact ⟨_, d7⟩
  · exact ⟨_, d6⟩
  · exact ⟨_, d5⟩
  · exact ⟨_, d4⟩
  · exact ⟨_, d3⟩
  · exact ⟨_, d2⟩
  · exact ⟨_, d1⟩
theorem law_back {h₀ h : Heap} {L : Addr} {o8 o7 o6 o5 o4 o3 o2 o1 : Obj} {own tl : List (Addr × Obj)} (dc : ∀ p ∈ cel L o8 o7 o6 o5 o4 o3 o2 o1, ∃ v, p.2.data = .cell v)
    (N : News h₀ L h (tl ++ (cel L o8 o7 o6 o5 o4 o3 o2 o1 ++ own))) (hD : ∀ p ∈ tl, ∀ q ∈ cel L o8 o7 o6 o5 o4 o3 o2 o1 ++ own, p.1 ≠ q.1) (far : Far L own) :
    ∃ own2, News h₀ L h (cel L o8 o7 o6 o5 o4 o3 o2 o1 ++ own2) ∧ Far L own2 ∧ (∀ p ∈ own, p ∈ own2) ∧ (∀ q, (∃ p ∈ own, p.1 = q) → ∀ p ∈ tl, p.1 ≠ q) ∧ (own2 = tl ++ own) ∧
      ∀ p ∈ tl ++ (cel L o8 o7 o6 o5 o4 o3 o2 o1 ++ own), NoCell p.2 → p ∈ own2 := by
  refine ⟨tl ++ own, fun p hp => N p (mem_mv2 hp), ⟨fun p hp => ?_⟩, fun p hp => List.mem_append.mpr (.inr hp), ?_, rfl, fun p hp hc => ?_⟩
  · rcases List.mem_append.mp hp with hp | hp
    · exact far_of (o8 := o8) (o7 := o7) (o6 := o6) (o5 := o5) (o4 := o4) (o3 := o3) (o2 := o2) (o1 := o1) fun q hq => hD p hp q (List.mem_append.mpr (.inl hq))
    · exact far.out p hp
  · rintro q ⟨p, hp, rfl⟩ p' hp'
    exact hD p' hp' p (List.mem_append.mpr (.inr hp))
  · rcases List.mem_append.mp hp with hp | hp
    · exact List.mem_append.mpr (.inl hp)
    · rcases List.mem_append.mp hp with hp | hp
      · obtain ⟨v, hv⟩ := dc p hp
        exact absurd hv (hc v)
      · exact List.mem_append.mpr (.inr hp)
theorem noCell_list {its : Array Value} {n : Nat} : NoCell (listOf its n) := fun v h => nomatch h
theorem ElIn.un {news own : List (Addr × Obj)} (hs : ∀ p ∈ news, NoCell p.2 → p ∈ own) {v : Value} {d : El} (h : ElIn news v d) : ElIn own v d := by
  cases h with
  | none => exact .none
  | int i t => exact .int i t
  | set h1 h2 => exact .set (hs _ h1 noCell_list) h2
theorem ElsIn.un {news own : List (Addr × Obj)} (hs : ∀ p ∈ news, NoCell p.2 → p ∈ own) {vs : List Value} {ds : List El} (h : ElsIn news vs ds) : ElsIn own vs ds := by
  induction h with
  | nil => exact .nil
  | cons h _ ih => exact .cons (h.un hs) ih
theorem DerIn.un {w : World} {news own : List (Addr × Obj)} (hs : ∀ p ∈ news, NoCell p.2 → p ∈ own) {x dx l : Addr} {vs : List Value} {els : List El} (h : DerIn w news x dx l vs els) : DerIn w own x dx l vs els := by
  obtain ⟨t, n, h1, h2, h3, h4⟩ := h
  exact ⟨t, n, hs _ h1 (fun v h => nomatch h), hs _ h2 (fun v h => nomatch h), hs _ h3 noCell_list, h4.un hs⟩
end Mine
namespace Mine
noncomputable def joinL : List (List Nat) → List Nat
  | [] => []
  | [x] => x
  | x :: r => x ++ 47 :: joinL r
theorem cut_47 : ∀ (p q x y : List Nat), 47 ∉ p → 47 ∉ q → p ++ 47 :: x = q ++ 47 :: y → p = q ∧ x = y
  | [], [], x, y, _, _, h => ⟨rfl, by simpa using h⟩
  | [], b :: q, x, y, _, hq, h => by
    have e : (47 : Nat) = b := (List.cons.inj h).1
    exact absurd (e ▸ List.mem_cons_self ..) hq
  | a :: p, [], x, y, hp, _, h => by
    have e : a = (47 : Nat) := (List.cons.inj h).1
    exact absurd (e ▸ List.mem_cons_self ..) hp
  | a :: p, b :: q, x, y, hp, hq, h => by
    have e := List.cons.inj h
    obtain ⟨h1, h2⟩ := cut_47 p q x y (fun m => hp (List.mem_cons_of_mem _ m)) (fun m => hq (List.mem_cons_of_mem _ m)) e.2
    exact ⟨by rw [e.1, h1], h2⟩
theorem join_inj : ∀ (ps qs : List (List Nat)), ps ≠ [] → qs ≠ [] → (∀ p ∈ ps, 47 ∉ p) → (∀ p ∈ qs, 47 ∉ p) → joinL ps = joinL qs → ps = qs
  | [], _, h, _, _, _, _ => absurd rfl h
  | _, [], _, h, _, _, _ => absurd rfl h
  | [p], [q], _, _, _, _, h => by rw [show p = q from h]
  | [p], q :: q2 :: r, _, _, hp, _, h => by
    have e : p = q ++ 47 :: joinL (q2 :: r) := h
    exact absurd (by rw [e]; exact List.mem_append.mpr (.inr (List.mem_cons_self ..))) (hp p (List.mem_cons_self ..))
  | p :: p2 :: r, [q], _, _, _, hq, h => by
    have e : p ++ 47 :: joinL (p2 :: r) = q := h
    exact absurd (by rw [← e]; exact List.mem_append.mpr (.inr (List.mem_cons_self ..))) (hq q (List.mem_cons_self ..))
  | p :: p2 :: r, q :: q2 :: t, _, _, hp, hq, h => by
    have e : p ++ 47 :: joinL (p2 :: r) = q ++ 47 :: joinL (q2 :: t) := h
    obtain ⟨h1, h2⟩ := cut_47 p q _ _ (hp p (List.mem_cons_self ..)) (hq q (List.mem_cons_self ..)) e
    rw [h1, join_inj (p2 :: r) (q2 :: t) (by simp) (by simp) (fun x m => hp x (List.mem_cons_of_mem _ m)) (fun x m => hq x (List.mem_cons_of_mem _ m)) h2]
theorem str_app (a b : Str) : (a ++ b).cps.toList = a.cps.toList ++ b.cps.toList := by
  show (a.cps ++ b.cps).toList = _
  simp
theorem str_join (l : List Str) : (Str.join ⟨#[47]⟩ l).cps.toList = joinL (l.map fun p => p.cps.toList) := by
  match l with
  | [] => rfl
  | [x] => rfl
  | x :: y :: r =>
    show (x ++ ⟨#[47]⟩ ++ Str.join ⟨#[47]⟩ (y :: r)).cps.toList = x.cps.toList ++ 47 :: joinL ((y :: r).map fun p => p.cps.toList)
    rw [str_app, str_app, str_join (y :: r)]
    simp
def catL (els : List El) : List Nat := els.flatMap fun e => 47 :: (pc e).cps.toList
theorem cat_fold (els : List El) : ∀ a : Str, (els.foldl (fun a e => a ++ (⟨#[47]⟩ ++ pc e)) a).cps.toList = a.cps.toList ++ catL els := by
  induction els with
  | nil => intro a; simp [catL]
  | cons e r ih =>
    intro a
    rw [List.foldl_cons, ih, str_app, str_app]
    simp [catL]
theorem catP_L (els : List El) : (catP els).cps.toList = catL els := by
  unfold catP
  rw [cat_fold]
  rfl
theorem catL_join : ∀ (e : El) (r : List El), catL (e :: r) = 47 :: joinL ((e :: r).map fun e => (pc e).cps.toList)
  | e, [] => by simp [catL, joinL]
  | e, e2 :: r => by
    have h := catL_join e2 r
    have h1 : catL (e :: e2 :: r) = (47 :: (pc e).cps.toList) ++ catL (e2 :: r) := by simp [catL]
    rw [h1, h]
    rfl
theorem pc_free (e : El) (h : e.ok) : 47 ∉ (pc e).cps.toList ∧ (pc e).cps.toList ≠ [] := by
  cases e with
  | none => decide
  | int i =>
    have : i = 0 ∨ i = 1 ∨ i = 2 ∨ i = 3 ∨ i = 4 := by have := h.1; have := h.2; omega
    rcases this with rfl | rfl | rfl | rfl | rfl <;> decide
  | set xs =>
    simp only [El.ok, menu, List.mem_cons, List.not_mem_nil, or_false] at h
    rcases h with rfl | rfl | rfl | rfl <;> decide +kernel
theorem catL_len (els : List El) (hok : ∀ e ∈ els, e.ok) : (catL els).length ≤ 9 * els.length := by
  induction els with
  | nil => exact Nat.le_refl 0
  | cons e r ih =>
    have h1 := ih fun e he => hok e (List.mem_cons_of_mem _ he)
    have h2 := pc_len e (hok e (List.mem_cons_self ..))
    have h3 : (pc e).cps.toList.length ≤ 8 := by
      have : (pc e).cps.toList.length = (pc e).length := by simp [Str.length]
      omega
    have h4 : catL (e :: r) = (47 :: (pc e).cps.toList) ++ catL r := by simp [catL]
    rw [h4, List.length_append, List.length_cons, List.length_cons]
    omega
theorem str_ext {a b : Str} (h : a.cps.toList = b.cps.toList) : a = b := by
  cases a; cases b
  exact congrArg Str.mk (Array.toList_inj.mp h)
theorem map_inj {α β : Type} (f : α → β) (hf : ∀ a b, f a = f b → a = b) : ∀ l l' : List α, l.map f = l'.map f → l = l'
  | [], [], _ => rfl
  | [], _ :: _, h => nomatch h
  | _ :: _, [], h => nomatch h
  | a :: l, b :: l', h => by
    have e := List.cons.inj h
    rw [hf a b e.1, map_inj f hf l l' e.2]
theorem text_law (els : List El) (hne : 1 ≤ els.length) (hlen : els.length ≤ 4) (hok : ∀ e ∈ els, e.ok) :
    (catP els).length ≤ 40 ∧ 1 ≤ (catP els).length ∧ (Txt.slice (catP els) (some 1) none).length ≠ 0 ∧ (Txt.slice (catP els) (some 1) none).length ≤ 100 ∧ Txt.split (Txt.slice (catP els) (some 1) none) (Str.ofString "/") = els.map pc := by
  match els, hne with
  | e :: r, _ =>
    have hL := catP_L (e :: r)
    have hlen0 : (catP (e :: r)).length = (catL (e :: r)).length := by rw [← hL]; simp [Str.length]
    have hb := catL_len (e :: r) hok
    have hj := catL_join e r
    have h1 : 1 ≤ (catP (e :: r)).length := by rw [hlen0, hj]; simp
    have hz : Txt.slice (catP (e :: r)) (some 1) none = ⟨(joinL ((e :: r).map fun e => (pc e).cps.toList)).toArray⟩ := by
      rw [slice_from_eq (i := 1) (b := (catP (e :: r)).length) (by decide) (by omega) rfl, hL, hj]
      refine congrArg Str.mk (congrArg List.toArray ?_)
      show List.take _ (joinL _) = _
      rw [List.take_of_length_le]
      have : (catP (e :: r)).length = (joinL ((e :: r).map fun e => (pc e).cps.toList)).length + 1 := by rw [hlen0, hj]; rfl
      omega
    have hzl : (Txt.slice (catP (e :: r)) (some 1) none).length + 1 = (catP (e :: r)).length := by
      rw [hz, hlen0, hj]
      simp [Str.length]
    have hpe := pc_free e (hok e (List.mem_cons_self ..))
    have hjn : joinL ((e :: r).map fun e => (pc e).cps.toList) ≠ [] := by
      cases r with
      | nil => exact hpe.2
      | cons e2 r => intro h; exact hpe.2 (List.append_eq_nil_iff.mp h).1
    have hz0 : (Txt.slice (catP (e :: r)) (some 1) none).length ≠ 0 := by
      intro h
      rw [hz] at h
      exact hjn (List.eq_nil_of_length_eq_zero (by simpa [Str.length] using h))
    have h9 : 9 * (e :: r).length ≤ 36 := by omega
    refine ⟨by omega, h1, hz0, by omega, ?_⟩
    generalize hZ : Txt.slice (catP (e :: r)) (some 1) none = z at *
    have hs : Str.ofString "/" = ⟨#[47]⟩ := by decide +kernel
    rw [hs]
    have e1 := PySem.StrLaws.join_split z ⟨#[47]⟩
    have e2 := PySem.StrLaws.split_free z 47
    generalize Txt.split z ⟨#[47]⟩ = S at e1 e2 ⊢
    have e3 := str_join S
    rw [e1, hz] at e3
    have hS : S ≠ [] := by
      rintro rfl
      exact hjn (by simpa [joinL] using e3)
    have e4 := join_inj _ _ (by simp) (by simpa using hS) (fun p hp => by
      obtain ⟨x, hx, rfl⟩ := List.mem_map.mp hp
      exact (pc_free x (hok x hx)).1) (fun p hp => by
      obtain ⟨x, hx, rfl⟩ := List.mem_map.mp hp
      exact e2 x hx) (by simpa using e3 : joinL ((e :: r).map fun e => (pc e).cps.toList) = joinL (S.map fun p => p.cps.toList))
    have e5 : ((e :: r).map pc).map (fun p => p.cps.toList) = S.map fun p => p.cps.toList := by rw [List.map_map]; exact e4
    exact (map_inj _ (fun a b h => str_ext h) _ _ e5).symm
end Mine
namespace Mine
section
variable {prog : Program} {w : World} {A : Around} {E : Value → Shared → Prop} {s : Shared} {env : Env} {h₀ : Heap} {x : Str} {body : List Stmt} {Q : Flow → Shared → Prop}
theorem rng_rest {I : Addr} {n : Nat} (J : Nat → (Str → Option Value) → List (Addr × Obj) → Prop)
    (turn : ∀ i t m₁ news₁ h tk own, i < n → OwnOff own (news₁.map (·.1)) → J i m₁ news₁ → Fr h₀ env.locals h (fun y => if y = x then some (.int (i : Int) t) else m₁ y) → News h₀ env.locals h (news₁ ++ own) →
      wpAny (model prog w) A (execs body env) (InvPostG h₀ env.locals (J (i + 1)) own { s with heap := h, toks := tk } Q) E { s with heap := h, toks := tk })
    (done : ∀ m₁ news₁ h tk, J n m₁ news₁ → Fr h₀ env.locals h m₁ → News h₀ env.locals h news₁ → Q .next { s with heap := h, toks := tk }) :
    ∀ k i m₁ news₁, i + k = n → (∀ p ∈ news₁, p.1 ≠ I) → J i m₁ news₁ → RangeRest prog w A E h₀ env x body Q s I 0 n k i m₁ news₁ := by
  intro k
  induction k with
  | zero =>
    intro i m₁ news₁ hi hI hJ
    refine RangeRest.zero fun h tk F N => done m₁ news₁ h tk ?_ F N
    have : i = n := hi
    exact this ▸ hJ
  | succ k ih =>
    intro i m₁ news₁ hi hI hJ
    refine RangeRest.succ fun t h tk F N => ?_
    rw [Int.zero_add] at F
    refine wpAny_mono (turn i t m₁ news₁ h tk [(I, itR (0 + ((i + 1 : Nat) : Int)) ((n : Int) - ((i + 1 : Nat) : Int)))] (by omega) ?_ hJ F fun p hp => N p ?_) (fun f s₂ hf => ?_) fun _ _ e => e
    · intro p hp b hb
      obtain ⟨q, hq, rfl⟩ := List.mem_map.mp hb
      rw [List.mem_singleton.mp hp]
      exact Ne.symm (hI q hq)
    · rcases List.mem_append.mp hp with hp | hp
      · exact List.mem_cons_of_mem _ hp
      · rw [List.mem_singleton.mp hp]; exact List.mem_cons_self ..
    · have fin : InvEndG h₀ env.locals (J (i + 1)) [(I, itR (0 + ((i + 1 : Nat) : Int)) ((n : Int) - ((i + 1 : Nat) : Int)))] { s with heap := h, toks := tk } s₂ →
          UnrEnd h₀ env.locals { s with heap := h, toks := tk } I (itR (0 + ((i + 1 : Nat) : Int)) ((n : Int) - ((i + 1 : Nat) : Int))) (RangeRest prog w A E h₀ env x body Q s I 0 n k (i + 1)) s₂ := by
        rintro ⟨h', tk', m', news', nx, rfl, F', N', hn, ho, hoff, hJ'⟩
        have hI' : ∀ p ∈ nx, p.1 ≠ I := fun p hp => Ne.symm (hoff _ (List.mem_singleton.mpr rfl) _ (List.mem_map.mpr ⟨p, hp, rfl⟩))
        refine UnrEnd.intro F' N' nx (fun p hp => ?_) hI' (ih (i + 1) m' nx (by omega) hI' hJ')
        rcases List.mem_cons.mp hp with rfl | hp
        · exact ho _ (List.mem_singleton.mpr rfl)
        · exact hn p hp
      cases f with
      | ret v => exact hf
      | brk => exact hf
      | next => exact fin hf
      | cont => exact fin hf
theorem rng_iter {r : Addr} {n : Nat} {b₀ : Int} {t₀ u₀ v₀ : Tok} {m₀ : Str → Option Value} {news : List (Addr × Obj)} (J : Nat → (Str → Option Value) → List (Addr × Obj) → Prop)
    (hh : A.handled = none) (hr : IsRange s.heap r 0 b₀ 1 t₀ u₀ v₀) (hsmall : Builtin.Range.small 0 b₀ 1 = true) (hn : Builtin.Range.rangeSize 0 b₀ 1 = (n : Int)) (F : Fr h₀ env.locals s.heap m₀) (N : News h₀ env.locals s.heap news) (hj : J 0 m₀ news)
    (turn : ∀ i t m₁ news₁ h tk own, i < n → OwnOff own (news₁.map (·.1)) → J i m₁ news₁ → Fr h₀ env.locals h (fun y => if y = x then some (.int (i : Int) t) else m₁ y) → News h₀ env.locals h (news₁ ++ own) →
      wpAny (model prog w) A (execs body env) (InvPostG h₀ env.locals (J (i + 1)) own { s with heap := h, toks := tk } Q) E { s with heap := h, toks := tk })
    (done : ∀ m₁ news₁ h tk, J n m₁ news₁ → Fr h₀ env.locals h m₁ → News h₀ env.locals h news₁ → Q .next { s with heap := h, toks := tk }) :
    wpAny (model prog w) A (pyIter (.ref r)) (fun it s₂ => LoopAtV prog w A h₀ env x body Q E it s₂) E s :=
  iter_rangeUnr hh hr hsmall hn F N fun I hI => rng_rest J turn done n 0 m₀ news (Nat.zero_add n) (fun p hp => Nat.ne_of_lt (hI p hp)) hj
end
end Mine
namespace Mine
section
variable {prog : Program} {w : World} {A : Around} {E : Value → Shared → Prop} {s : Shared} {env : Env} {h₀ : Heap} {target : Expr} {body : List Stmt} {Q : Flow → Shared → Prop} {P : Nat → Value → Prop} {fp : List Addr}
theorem unr_ind {n : Nat} (J : Nat → (Str → Option Value) → List (Addr × Obj) → Prop)
    (turn : ∀ i v m₁ news₁ h₁ tk₁ own, i < n → P i v → (∀ p ∈ own, p.1 ∈ fp) → J i m₁ news₁ → Fr h₀ env.locals h₁ m₁ → News h₀ env.locals h₁ (own ++ news₁) →
      wpAny (model prog w) A (assign target env v) (fun _ s₂ => wpAny (model prog w) A (execs body env) (LoopStep3 h₀ env.locals own news₁ (J (i + 1)) { s with heap := h₁, toks := tk₁ } (fun v s' => Q (.ret v) s') fun s' => Q .next s') E s₂) E { s with heap := h₁, toks := tk₁ })
    (done : ∀ m₁ news₁ h tk, J n m₁ news₁ → Fr h₀ env.locals h m₁ → News h₀ env.locals h news₁ → Q .next { s with heap := h, toks := tk }) :
    ∀ k i m₁ news₁, i + k = n → J i m₁ news₁ → Unr prog w A E h₀ env target body Q P fp s k i m₁ news₁ := by
  intro k
  induction k with
  | zero =>
    intro i m₁ news₁ hi hJ
    refine Unr.zero fun h tk F N => done m₁ news₁ h tk ?_ F N
    have : i = n := hi
    exact this ▸ hJ
  | succ k ih =>
    intro i m₁ news₁ hi hJ
    refine Unr.succ fun v h₁ tk₁ own hP hown F N => ?_
    refine wpAny_mono (turn i v m₁ news₁ h₁ tk₁ own (by omega) hP hown hJ F N) (fun _ s₂ h₂ => wpAny_mono h₂ (fun f s₃ h₃ => ?_) fun _ _ e => e) fun _ _ e => e
    have fin : LoopStep2 h₀ env.locals own news₁ (J (i + 1)) { s with heap := h₁, toks := tk₁ } .next s₃ → LoopStep2 h₀ env.locals own news₁ (Unr prog w A E h₀ env target body Q P fp s k (i + 1)) { s with heap := h₁, toks := tk₁ } .next s₃ := by
      rintro ⟨e0, h', tk, m₂, news₂, e1, F₂, N₂, ha, hJ₂⟩
      exact ⟨e0, h', tk, m₂, news₂, e1, F₂, N₂, ha, ih (i + 1) m₂ news₂ (by omega) hJ₂⟩
    cases f with
    | ret v => exact h₃
    | brk => exact h₃
    | cont => exact fin h₃
    | next => exact fin h₃
end
def rangeObj (n : Nat) (t u v : Tok) : Obj := { cls := .type "range", data := .fields #[.int 0 t, .int (n : Int) u, .int 1 v] }
inductive RanksO : Obj → Bool → Nat → Nat → Prop
  | range {b : Nat} {t u v : Tok} : RanksO (rangeObj b t u v) true b b
  | one {b k : Nat} {t : Tok} : RanksO (listOf (List.toArray [Value.int 0 t]) k) false b 1
def UPost (h₀ : Heap) (L : Addr) (own news₁ : List (Addr × Obj)) (J : (Str → Option Value) → List (Addr × Obj) → Prop) (s₁ : Shared) (Q : Flow → Shared → Prop) (f : Flow) (s₂ : Shared) : Prop :=
  match f with
  | .ret v => Q (.ret v) s₂
  | .brk => Q .next s₂
  | _ => ∃ h' tk m' news' nx, s₂ = { s₁ with heap := h', toks := tk } ∧ Fr h₀ L h' m' ∧ News h₀ L h' news' ∧ (∀ p ∈ nx, p ∈ news') ∧ (∀ p ∈ own, p ∈ news') ∧ nx.map (·.1) = news₁.map (·.1) ∧ J m' nx
section
variable {prog : Program} {w : World} {A : Around} {E : Value → Shared → Prop} {s : Shared} {env : Env} {h₀ : Heap} {body : List Stmt} {Q : Flow → Shared → Prop}
theorem ranks_iter {x : Str} {px : Pos} {rk : Addr} {ro : Obj} {hs : Bool} {b n : Nat} {m₀ : Str → Option Value} {news : List (Addr × Obj)} (hro : (rk, ro) ∈ news) (hk : RanksO ro hs b n) (hn3 : n ≤ 3) (hh : A.handled = none)
    (F : Fr h₀ env.locals s.heap m₀) (N : News h₀ env.locals s.heap news) (J : Nat → (Str → Option Value) → List (Addr × Obj) → Prop) (hj : J 0 m₀ news)
    (turn : ∀ i t m₁ news₁ h tk own, i < n → (rk, ro) ∈ news₁ → OwnOff own (news₁.map (·.1)) → J i m₁ news₁ → Fr h₀ env.locals h m₁ → News h₀ env.locals h (news₁ ++ own) →
      wpAny (model prog w) A (assign (.Name x px) env (.int (i : Int) t)) (fun _ s₂ => wpAny (model prog w) A (execs body env) (UPost h₀ env.locals own news₁ (fun m' nx => (rk, ro) ∈ nx ∧ J (i + 1) m' nx) { s with heap := h, toks := tk } Q) E s₂) E { s with heap := h, toks := tk })
    (done : ∀ m₁ news₁ h tk, J n m₁ news₁ → Fr h₀ env.locals h m₁ → News h₀ env.locals h news₁ → Q .next { s with heap := h, toks := tk }) :
    wpAny (model prog w) A (pyIter (.ref rk)) (fun it s₂ => UnrAt prog w A h₀ env (.Name x px) body Q E it s₂) E s := by
  have hrk := (N _ hro).1
  have hlt : rk < s.heap.objs.size := Heap.lt_size hrk
  have key : ∀ (s₂ : Shared) (fp : List Addr) (P : Nat → Value → Prop), (∃ hp, s₂ = { s with heap := hp }) → (∀ a ∈ fp, a = s.heap.objs.size ∨ a = rk) → (∀ i v, i < n → P i v → ∃ t, v = Value.int (i : Int) t) →
      Unr prog w A E h₀ env (.Name x px) body Q P fp s₂ n 0 m₀ news := by
    rintro s₂ fp P ⟨hp, rfl⟩ hfp hP
    refine unr_ind (fun i m nx => (rk, ro) ∈ nx ∧ J i m nx ∧ nx.map (·.1) = news.map (·.1)) ?_ ?_ n 0 m₀ news (Nat.zero_add n) ⟨hro, hj, rfl⟩
    · rintro i v m₁ news₁ h₁ tk₁ own hi hPv hown ⟨hr1, hJ1, ha1⟩ F₁ N₁
      obtain ⟨t, rfl⟩ := hP i v hi hPv
      have hoff : OwnOff (own.filter fun p => decide (p.1 = s.heap.objs.size)) (news₁.map (·.1)) := by
        intro p hp b hb
        have h1 : p.1 = s.heap.objs.size := by simpa using (List.mem_filter.mp hp).2
        rw [ha1] at hb
        obtain ⟨q, hq, rfl⟩ := List.mem_map.mp hb
        rw [h1]
        exact Ne.symm (Nat.ne_of_lt (Heap.lt_size (N q hq).1))
      have N₂ : News h₀ env.locals h₁ (news₁ ++ own.filter fun p => decide (p.1 = s.heap.objs.size)) := fun p hp => N₁ p ((List.mem_append.mp hp).elim (fun h => List.mem_append.mpr (.inr h)) fun h => List.mem_append.mpr (.inl (List.mem_filter.mp h).1))
      refine wpAny_mono (turn i t m₁ news₁ h₁ tk₁ _ hi hr1 hoff hJ1 F₁ N₂) (fun _ s₂ h₂ => wpAny_mono h₂ (fun f s₃ h₃ => ?_) fun _ _ e => e) fun _ _ e => e
      have fin : (∃ h' tk m' news' nx, s₃ = { ({ s with heap := h₁, toks := tk₁ } : Shared) with heap := h', toks := tk } ∧ Fr h₀ env.locals h' m' ∧ News h₀ env.locals h' news' ∧ (∀ p ∈ nx, p ∈ news') ∧ (∀ p ∈ own.filter fun p => decide (p.1 = s.heap.objs.size), p ∈ news') ∧ nx.map (·.1) = news₁.map (·.1) ∧ (rk, ro) ∈ nx ∧ J (i + 1) m' nx) →
          LoopStep2 h₀ env.locals own news₁ (fun m nx => (rk, ro) ∈ nx ∧ J (i + 1) m nx ∧ nx.map (·.1) = news.map (·.1)) { s with heap := h₁, toks := tk₁ } .next s₃ := by
        rintro ⟨h', tk, m', news', nx, rfl, F', N', hn, ho, ha, hr', hJ'⟩
        refine ⟨rfl, h', tk, m', nx, rfl, F', fun p hp => ?_, ha, hr', hJ', ha.trans ha1⟩
        rcases List.mem_append.mp hp with hp | hp
        · rcases hfp _ (hown p hp) with e | e
          · exact N' p (ho p (List.mem_filter.mpr ⟨hp, by simpa using e⟩))
          · have e1 := (N₁ p (List.mem_append.mpr (.inl hp))).1
            have e2 := (N₁ _ (List.mem_append.mpr (.inr hr1))).1
            rw [e, e2] at e1
            have e3 : (rk, ro) = p := Prod.ext e.symm (Option.some.inj e1)
            exact e3 ▸ N' _ (hn _ hr')
        · exact N' p (hn p hp)
      cases f with
      | ret v => exact h₃
      | brk => exact h₃
      | cont => exact fin h₃
      | next => exact fin h₃
    · rintro m₁ news₁ h tk ⟨_, hJ1, _⟩ F₁ N₁
      exact done m₁ news₁ h tk hJ1 F₁ N₁
  have hL : env.locals ∉ [s.heap.objs.size] := fun hm => absurd F.ns.lt ((List.mem_singleton.mp hm) ▸ Nat.lt_irrefl _)
  have hwr : ∀ b ∈ [s.heap.objs.size], h₀.get? b = none := fun b hb => by rw [List.mem_singleton.mp hb]; exact next_is_new F
  have hnw : ∀ p ∈ news, p.1 ∉ [s.heap.objs.size] := fun p hp hI => absurd (Heap.lt_size (N p hp).1) ((List.mem_singleton.mp hI) ▸ Nat.lt_irrefl _)
  have Np : ∀ o : Obj, News h₀ env.locals (s.heap.push o) news := fun o p hp => ⟨Heap.get?_push_of_some _ (N p hp).1, (N p hp).2⟩
  cases hk with
  | @range b t u v =>
    have hr : IsRange s.heap rk 0 (b : Int) 1 t u v := hrk
    have hc : b = 0 ∨ b = 1 ∨ b = 2 ∨ b = 3 := by omega
    have hsm : Builtin.Range.small 0 (b : Int) 1 = true := by rcases hc with rfl | rfl | rfl | rfl <;> decide
    have hrs : Builtin.Range.rangeSize 0 (b : Int) 1 = (b : Int) := by rcases hc with rfl | rfl | rfl | rfl <;> rfl
    refine wpAny_pyIter_range hr hsm ?_
    refine ⟨_, _, _, b, _, _, m₀, news, rfl, Walks.range hh s.heap.objs.size 0 1 b, hL, hwr, hnw, ?_, F.push _, Np _, fun i s' v Q' _ hQ => wpAny_pure hQ, key _ _ _ ⟨_, rfl⟩ ?_ ?_⟩
    · show IsRangeIter _ _ _ _ _
      rw [hrs]
      simpa using Heap.get?_push_size _ rfl
    · intro a ha; exact .inl (List.mem_singleton.mp ha)
    · rintro i v _ ⟨t, rfl⟩
      exact ⟨t, by simp⟩
  | @one b k t =>
    have hls : s.heap.IsList rk #[Value.int 0 t] := ⟨_, hrk, rfl, k, rfl⟩
    have hne : rk ≠ s.heap.objs.size := Nat.ne_of_lt hlt
    refine wpAny_pyIter_list hls ?_
    refine ⟨_, _, _, 1, _, _, m₀, news, rfl, Walks.list hh s.heap.objs.size rk hne #[Value.int 0 t], ?_, hwr, hnw, ⟨⟨_, Heap.get?_push_size _ rfl, rfl, rfl⟩, hls.at fun o e => Heap.get?_push_of_some _ e⟩, F.push _, Np _, fun i s' v Q' _ hQ => wpAny_pure hQ, key _ _ _ ⟨_, rfl⟩ ?_ ?_⟩
    · intro hm
      rcases List.mem_cons.mp hm with e | hm
      · exact absurd F.ns.lt (e ▸ Nat.lt_irrefl _)
      · exact (N _ hro).2.1 (List.mem_singleton.mp hm).symm
    · intro a ha
      simp only [List.mem_cons, List.not_mem_nil, or_false] at ha
      exact ha
    · intro i v hi hv
      have : i = 0 := by omega
      subst this
      exact ⟨t, by simpa using hv.symm⟩
end
end Mine
namespace Mine
def okE : El → Int → Prop
  | .none, _ => True
  | .int k, p => k = p
  | .set xs, p => p ∈ xs
theorem goC_ok : ∀ (els : List El) (ps : List Int) (b : Int) (i : Option Int) (z : Int × Int), goC els ps b i = some z → ∀ (j : Nat) e p, els[j]? = some e → ps[j]? = some p → okE e p
  | [], _, _, _, _, _, _, _, _, he, _ => nomatch he
  | _ :: _, [], _, _, _, _, _, _, _, _, hp => nomatch hp
  | .int k :: es, q :: ps, b, i, z, h, j, e, p, he, hp => by
    unfold goC at h
    by_cases hk : k = q
    · rw [if_pos hk] at h
      cases j with
      | zero => cases he; cases hp; exact hk
      | succ j => exact goC_ok es ps b i z h j e p (by simpa using he) (by simpa using hp)
    · rw [if_neg hk] at h; cases h
  | .set xs :: es, q :: ps, b, i, z, h, j, e, p, he, hp => by
    unfold goC at h
    by_cases hk : q ∈ xs
    · rw [if_pos hk] at h
      cases j with
      | zero => cases he; cases hp; exact hk
      | succ j => exact goC_ok es ps _ i z h j e p (by simpa using he) (by simpa using hp)
    · rw [if_neg hk] at h; cases h
  | .none :: es, q :: ps, b, i, z, h, j, e, p, he, hp => by
    unfold goC at h
    cases j with
    | zero => cases he; exact True.intro
    | succ j => exact goC_ok es ps b _ z h j e p (by simpa using he) (by simpa using hp)
theorem goC_noNone : ∀ (els : List El) (ps : List Int) (b : Int), (∀ e ∈ els, e ≠ El.none) → goC els ps b none = none
  | [], _, _, _ => rfl
  | _ :: _, [], _, _ => by unfold goC; rfl
  | .int k :: es, p :: ps, b, h => by
    unfold goC
    split
    · exact goC_noNone es ps b fun e he => h e (.tail _ he)
    · rfl
  | .set xs :: es, p :: ps, b, h => by
    unfold goC
    split
    · exact goC_noNone es ps _ fun e he => h e (.tail _ he)
    · rfl
  | .none :: es, p :: ps, b, h => absurd rfl (h _ (.head _))
theorem goC_made (q : Int) (r : Nat) : ∀ (els : List El) (ps : List Int) (b : Int) (i : Option Int), (∀ xs, El.set xs ∈ els → xs.Nodup ∧ r < xs.length) → els.map (fillE (some q) r) = ps.map El.int →
    (El.none ∈ els ∨ i = some q) → ((∃ xs, El.set xs ∈ els) ∨ b = (r : Int)) → goC els ps b i = some (q, (r : Int))
  | [], ps, b, i, _, _, hi, hb => by
    obtain rfl : i = some q := hi.resolve_left fun h => nomatch h
    obtain rfl : b = (r : Int) := hb.resolve_left fun ⟨_, h⟩ => nomatch h
    unfold goC; rfl
  | _ :: _, [], _, _, _, hm, _, _ => nomatch hm
  | .int k :: es, p :: ps, b, i, hx, hm, hi, hb => by
    rw [List.map_cons, List.map_cons] at hm
    injection hm with h1 h2
    injection h1 with h1
    unfold goC
    rw [if_pos h1]
    refine goC_made q r es ps b i (fun xs h => hx xs (.tail _ h)) h2 (hi.imp_left fun h => ?_) (hb.imp_left fun ⟨xs, h⟩ => ⟨xs, ?_⟩)
    · cases h with | tail _ h => exact h
    · cases h with | tail _ h => exact h
  | .set xs :: es, p :: ps, b, i, hx, hm, hi, hb => by
    rw [List.map_cons, List.map_cons] at hm
    injection hm with h1 h2
    injection h1 with h1
    obtain ⟨hnd, hr⟩ := hx xs (.head _)
    have h3 : xs.getD r 0 = xs[r] := by simp [hr]
    have h4 : p ∈ xs := by rw [← h1, h3]; exact List.getElem_mem hr
    have h5 : xs.idxOf p = r := by rw [← h1, h3]; exact hnd.idxOf_getElem r hr
    unfold goC
    rw [if_pos h4, h5]
    refine goC_made q r es ps _ i (fun xs h => hx xs (.tail _ h)) h2 (hi.imp_left fun h => ?_) (.inr rfl)
    cases h with | tail _ h => exact h
  | .none :: es, p :: ps, b, i, hx, hm, hi, hb => by
    rw [List.map_cons, List.map_cons] at hm
    injection hm with h1 h2
    have h1 : q = p := by injection h1
    unfold goC
    refine goC_made q r es ps b _ (fun xs h => hx xs (.tail _ h)) h2 (.inr (by rw [h1])) (hb.imp_left fun ⟨xs, h⟩ => ⟨xs, ?_⟩)
    cases h with | tail _ h => exact h
theorem menu_nodup {brs : List Int} (h : brs ∈ menu) : brs.Nodup := by
  simp only [menu, List.mem_cons, List.not_mem_nil, or_false] at h
  rcases h with rfl | rfl | rfl | rfl <;> decide
/-- the number of ranks -/
def nR (hs : Bool) (brs : List Int) : Nat := if hs then brs.length else 1
def wIdx (c wd : Nat) (ps : List Int) : Option Int := if wd < c then some (ps.getD wd 0) else none
def Made (els : List El) (c wd : Nat) (ps : List Int) (r : Nat) : Prop := ps.length = c ∧ els.map (fillE (wIdx c wd ps) r) = ps.map El.int
section
variable {els : List El} {c wd : Nat} {brs : List Int} {hs : Bool}
theorem LawIn.rank (h : LawIn els c wd brs hs) (hb : brs ∈ menu) {r : Nat} (hr : r < nR hs brs) : ∀ xs, El.set xs ∈ els → xs.Nodup ∧ r < xs.length := by
  intro xs hx
  obtain ⟨i, hi⟩ := List.getElem?_of_mem hx
  have e := h.set i xs hi
  subst e
  have hh : hs = true := h.some.mpr ⟨i, hi⟩
  subst hh
  exact ⟨menu_nodup hb, hr⟩
theorem LawIn.noNone (h : LawIn els c wd brs hs) (hw : ¬ wd < c) : ∀ e ∈ els, e ≠ El.none := by
  rintro e he rfl
  obtain ⟨i, hi⟩ := List.getElem?_of_mem he
  exact hw ((h.none i).mp hi).2
theorem LawIn.zero (h : LawIn els c wd brs hs) {r : Nat} (hr : r < nR hs brs) : (∃ xs, El.set xs ∈ els) ∨ (0 : Int) = (r : Int) := by
  cases hs with
  | true =>
    obtain ⟨i, hi⟩ := h.some.mp rfl
    exact .inl ⟨brs, List.mem_of_getElem? hi⟩
  | false =>
    have : r < 1 := hr
    exact .inr (by omega)
theorem made_one (h : LawIn els c wd brs hs) (hb : brs ∈ menu) {ps : List Int} {r r' : Nat} (hr : r < nR hs brs) (hr' : r' < nR hs brs) (m : Made els c wd ps r) (m' : Made els c wd ps r') : r = r' := by
  cases hs with
  | true =>
    obtain ⟨i, hi⟩ := h.some.mp rfl
    have e : els.map (fillE (wIdx c wd ps) r) = els.map (fillE (wIdx c wd ps) r') := m.2.trans m'.2.symm
    have e2 := congrArg (fun l => l[i]?) e
    simp only [List.getElem?_map, hi, Option.map_some, Option.some.injEq, fillE] at e2
    injection e2 with e2
    have h1 : r < brs.length := hr
    have h2 : r' < brs.length := hr'
    rw [show brs.getD r 0 = brs[r] by simp [h1], show brs.getD r' 0 = brs[r'] by simp [h2]] at e2
    rw [← (menu_nodup hb).idxOf_getElem r h1, ← (menu_nodup hb).idxOf_getElem r' h2, e2]
  | false =>
    have h1 : r < 1 := hr
    have h2 : r' < 1 := hr'
    omega
theorem told_wild (h : LawIn els c wd brs hs) (hb : brs ∈ menu) (hw : wd < c) {ps : List Int} {r : Nat} (hr : r < nR hs brs) (m : Made els c wd ps r) : checkR els ps = some (ps.getD wd 0, (r : Int)) := by
  obtain ⟨m1, m2⟩ := m
  rw [checkR, if_pos (m1.trans h.len.symm)]
  rw [wIdx, if_pos hw] at m2
  exact goC_made _ r els ps 0 none (h.rank hb hr) m2 (.inl (List.mem_of_getElem? ((h.none wd).mpr ⟨rfl, hw⟩))) (h.zero hr)
theorem told_none (h : LawIn els c wd brs hs) (hw : ¬ wd < c) (ps : List Int) : checkR els ps = none := by
  unfold checkR
  split
  · exact goC_noNone els ps 0 (h.noNone hw)
  · rfl
theorem at_len {ps : List Int} (hw : wd < c) (hp : ps.length = c) : ps[wd]? = some (ps.getD wd 0) := by
  have : wd < ps.length := by omega
  simp [this]
theorem told_not (h : LawIn els c wd brs hs) (hb : brs ∈ menu) (hw : wd < c) {ps : List Int} (m : ∀ r, r < nR hs brs → ¬ Made els c wd ps r) : checkR els ps = none := by
  cases hc : checkR els ps with
  | none => rfl
  | some z =>
    exfalso
    unfold checkR at hc
    by_cases hl : ps.length = els.length
    · rw [if_pos hl] at hc
      have ok := goC_ok els ps 0 none z hc
      have hpc : ps.length = c := hl.trans h.len
      obtain ⟨r, hr, hset⟩ : ∃ r, r < nR hs brs ∧ ∀ (j : Nat) xs p, els[j]? = some (El.set xs) → ps[j]? = some p → xs.getD r 0 = p := by
        cases hs with
        | true =>
          obtain ⟨i0, hi0⟩ := h.some.mp rfl
          have hlt : i0 < ps.length := by rw [hl]; exact (List.getElem?_eq_some_iff.mp hi0).1
          have hp0 : ps[i0]? = some ps[i0] := List.getElem?_eq_getElem hlt
          have hin : ps[i0] ∈ brs := ok i0 _ _ hi0 hp0
          refine ⟨brs.idxOf ps[i0], List.idxOf_lt_length_iff.mpr hin, fun j xs p hj hp => ?_⟩
          obtain rfl := h.one j i0 _ _ hj hi0
          obtain rfl := h.set _ xs hj
          rw [hp0] at hp
          cases hp
          have := List.idxOf_lt_length_iff.mpr hin
          simp [this]
        | false =>
          refine ⟨0, Nat.one_pos, fun j xs p hj _ => ?_⟩
          obtain rfl := h.set _ xs hj
          have := h.some.mpr ⟨j, hj⟩
          cases this
      refine m r hr ⟨hpc, ?_⟩
      rw [wIdx, if_pos hw]
      refine List.ext_getElem? fun j => ?_
      rw [List.getElem?_map, List.getElem?_map]
      cases hj : els[j]? with
      | none =>
        have h1 := List.getElem?_eq_none_iff.mp hj
        have h2 : ps[j]? = none := List.getElem?_eq_none_iff.mpr (by omega)
        rw [h2]; rfl
      | some e =>
        have hlt : j < ps.length := by rw [hl]; exact (List.getElem?_eq_some_iff.mp hj).1
        have hp : ps[j]? = some ps[j] := List.getElem?_eq_getElem hlt
        have ho := ok j _ _ hj hp
        rw [hp]
        show some (fillE _ r e) = some (El.int ps[j])
        cases e with
        | none =>
          obtain ⟨rfl, _⟩ := (h.none j).mp hj
          have := at_len hw hpc
          rw [hp] at this
          rw [← Option.some.inj this]
          rfl
        | int k =>
          have ho : k = ps[j] := ho
          rw [← ho]; rfl
        | set xs => exact congrArg (fun z => some (El.int z)) (hset j xs _ hj hp)
    · rw [if_neg hl] at hc; cases hc
theorem fill_fill (i : Int) (r : Nat) (els : List El) : (els.map (fillE none r)).map (fillE (some i) 0) = els.map (fillE (some i) r) := by
  rw [List.map_map]
  refine List.map_congr_left fun e _ => ?_
  cases e <;> rfl
theorem fill_none_iff {r : Nat} {e : El} : fillE none r e = El.none ↔ e = El.none := by
  cases e <;> simp [fillE, elV]
theorem part_yes (h : LawIn els c wd brs hs) (hw : wd < c) {ps : List Int} {r : Nat} (m : Made els c wd ps r) : checkR (els.map (fillE none r)) ps = some (ps.getD wd 0, 0) := by
  obtain ⟨m1, m2⟩ := m
  rw [checkR, if_pos (by rw [List.length_map]; exact m1.trans h.len.symm)]
  rw [wIdx, if_pos hw] at m2
  refine goC_made _ 0 _ ps 0 none (fun xs hx => ?_) ((fill_fill _ r els).trans m2) (.inl ?_) (.inr rfl)
  · obtain ⟨e, _, he⟩ := List.mem_map.mp hx
    cases e <;> cases he
  · exact List.mem_map.mpr ⟨_, List.mem_of_getElem? ((h.none wd).mpr ⟨rfl, hw⟩), rfl⟩
theorem part_none (h : LawIn els c wd brs hs) (hw : ¬ wd < c) (ps : List Int) (r : Nat) : checkR (els.map (fillE none r)) ps = none := by
  unfold checkR
  split
  · refine goC_noNone _ ps 0 fun e he hn => ?_
    obtain ⟨e', he', rfl⟩ := List.mem_map.mp he
    exact h.noNone hw e' he' (fill_none_iff.mp hn)
  · rfl
theorem part_not (h : LawIn els c wd brs hs) (hw : wd < c) {ps : List Int} {r : Nat} (m : ¬ Made els c wd ps r) : checkR (els.map (fillE none r)) ps = none := by
  cases hc : checkR (els.map (fillE none r)) ps with
  | none => rfl
  | some z =>
    exfalso
    unfold checkR at hc
    by_cases hl : ps.length = (els.map (fillE none r)).length
    · rw [if_pos hl] at hc
      rw [List.length_map] at hl
      have ok := goC_ok _ ps 0 none z hc
      have hpc : ps.length = c := hl.trans h.len
      refine m ⟨hpc, ?_⟩
      rw [wIdx, if_pos hw]
      refine List.ext_getElem? fun j => ?_
      rw [List.getElem?_map, List.getElem?_map]
      cases hj : els[j]? with
      | none =>
        have h1 := List.getElem?_eq_none_iff.mp hj
        have h2 : ps[j]? = none := List.getElem?_eq_none_iff.mpr (by omega)
        rw [h2]; rfl
      | some e =>
        have hlt : j < ps.length := by rw [hl]; exact (List.getElem?_eq_some_iff.mp hj).1
        have hp : ps[j]? = some ps[j] := List.getElem?_eq_getElem hlt
        have ho := ok j (fillE none r e) _ (by rw [List.getElem?_map, hj]; rfl) hp
        rw [hp]
        show some (fillE _ r e) = some (El.int ps[j])
        cases e with
        | none =>
          obtain ⟨rfl, _⟩ := (h.none j).mp hj
          have := at_len hw hpc
          rw [hp] at this
          rw [← Option.some.inj this]
          rfl
        | int k =>
          have ho : k = ps[j] := ho
          rw [← ho]; rfl
        | set xs =>
          have ho : xs.getD r 0 = ps[j] := ho
          show some (El.int (xs.getD r 0)) = _
          rw [ho]
    · rw [if_neg hl] at hc; cases hc
end
def elD : El → PyData
  | .none => .none
  | .int i => .int i
  | .set xs => .list (xs.map .int)
theorem eqv_made : ∀ (es : List El) (ps : List Int), PyData.eqvAll (es.map elD) (ps.map PyData.int) = true ↔ es = ps.map El.int
  | [], [] => by simp [PyData.eqvAll]
  | [], _ :: _ => by simp [PyData.eqvAll]
  | _ :: _, [] => by simp [PyData.eqvAll]
  | e :: es, p :: ps => by
    simp only [List.map_cons, PyData.eqvAll, Bool.and_eq_true, List.cons.injEq, eqv_made es ps]
    refine and_congr_left fun _ => ?_
    cases e <;> simp [elD, PyData.eqv]
theorem eqv_same : ∀ (es : List El), PyData.eqvAll (es.map elD) (es.map elD) = true
  | [] => by simp [PyData.eqvAll]
  | e :: es => by
    simp only [List.map_cons, PyData.eqvAll, Bool.and_eq_true, eqv_same es, and_true]
    cases e with
    | none => simp [elD, PyData.eqv]
    | int i => simp [elD, PyData.eqv]
    | set xs => simp [elD, PyData.eqv, ked_eqvAll]
def madeB (els : List El) (c wd : Nat) (ps : List Int) (r : Nat) : Bool := decide (ps.length = c) && PyData.eqvAll ((els.map (fillE (wIdx c wd ps) r)).map elD) (ps.map PyData.int)
theorem madeB_iff {els : List El} {c wd : Nat} {ps : List Int} {r : Nat} : madeB els c wd ps r = true ↔ Made els c wd ps r := by
  unfold madeB Made
  rw [Bool.and_eq_true, decide_eq_true_iff, eqv_made]
end Mine
namespace Mine
theorem reads_ints {h : Heap} : ∀ {ws : List Value} {xs : List Int}, IntsAre ws xs → ReadsAll h ws (xs.map PyData.int) []
  | _, _, .nil => .nil
  | _, _, .cons i t r => .cons (.int i t) (reads_ints r)
theorem ElIn.reads {h₀ h : Heap} {L : Addr} {news own : List (Addr × Obj)} (N : News h₀ L h news) (hs : ∀ p ∈ own, p ∈ news) {v : Value} {e : El} (k : ElIn own v e) : ∃ as, Reads h v (elD e) as := by
  cases k with
  | none => exact ⟨_, .none⟩
  | int i t => exact ⟨_, .int i t⟩
  | @set a ws n xs h1 h2 => exact ⟨_, .list (N _ (hs _ h1)).1 rfl rfl (by simpa using reads_ints h2)⟩
theorem ElsIn.reads {h₀ h : Heap} {L : Addr} {news own : List (Addr × Obj)} (N : News h₀ L h news) (hs : ∀ p ∈ own, p ∈ news) {us : List Value} {es : List El} (k : ElsIn own us es) : ∃ as, ReadsAll h us (es.map elD) as := by
  induction k with
  | nil => exact ⟨_, .nil⟩
  | cons h1 _ ih =>
    obtain ⟨as, h2⟩ := ih
    obtain ⟨bs, h3⟩ := h1.reads N hs
    exact ⟨_, .cons h3 h2⟩
theorem els_canLay : ∀ es : List El, PyData.canLayAll0 (es.map elD) = true
  | [] => rfl
  | e :: es => by
    simp only [List.map_cons, PyData.canLayAll0, els_canLay es, Bool.and_true]
    cases e with
    | none => rfl
    | int i => rfl
    | set xs => simp [elD, PyData.canLay0, ke_canLayAll0]
theorem els_depth : ∀ es : List El, PyData.depthAll (es.map elD) ≤ 1
  | [] => Nat.zero_le _
  | e :: es => by
    simp only [List.map_cons, PyData.depthAll]
    have h1 := els_depth es
    have h2 : PyData.depth (elD e) ≤ 1 := by
      cases e with
      | none => exact Nat.zero_le _
      | int i => exact Nat.zero_le _
      | set xs => simp [elD, PyData.depth, ke_depthAll]
    omega
theorem els_shaped (es : List El) : SeqAt.shaped (.list (es.map elD)) = true := by
  have h := els_depth es
  unfold SeqAt.shaped
  rw [Bool.and_eq_true, decide_eq_true_iff]
  refine ⟨els_canLay es, ?_⟩
  unfold PyData.depth
  omega
section
variable {prog : Program} {w : World} {A : Around} {E : Value → Shared → Prop} {s : Shared} {h₀ : Heap} {L : Addr} {news own own' : List (Addr × Obj)} {Q : Value → Shared → Prop}
/-- a list of the ledger -/
theorem reads_led {l : Addr} {us : List Value} {n : Nat} {es : List El} (N : News h₀ L s.heap news) (hs : ∀ p ∈ own, p ∈ news) (hl : (l, listOf (List.toArray us) n) ∈ news) (k : ElsIn own us es) : ∃ as, Reads s.heap (.ref l) (.list (es.map elD)) as := by
  obtain ⟨as, h⟩ := k.reads N hs
  exact ⟨_, .list (N _ hl).1 rfl rfl (by simpa using h)⟩
theorem reads_ledI {l : Addr} {us : List Value} {n : Nat} {xs : List Int} (N : News h₀ L s.heap news) (hl : (l, listOf (List.toArray us) n) ∈ news) (k : IntsAre us xs) : ∃ as, Reads s.heap (.ref l) (.list (xs.map PyData.int)) as :=
  ⟨_, .list (N _ hl).1 rfl rfl (by simpa using reads_ints k)⟩
/-- a made list against a path -/
theorem eq_path {a b : Addr} {us ws : List Value} {n n' : Nat} {es : List El} {ps : List Int} (N : News h₀ L s.heap news) (hs : ∀ p ∈ own, p ∈ news) (ha : (a, listOf (List.toArray us) n) ∈ news) (hb : (b, listOf (List.toArray ws) n') ∈ news) (k : ElsIn own us es) (k' : IntsAre ws ps) (hu : A.units + 64 < cLine)
    (h : Q (.bool (PyData.eqvAll (es.map elD) (ps.map PyData.int))) s) : wpAny (model prog w) A (compareOp .Eq (.ref a) (.ref b)) Q E s := by
  obtain ⟨as, h1⟩ := reads_led N hs ha k
  obtain ⟨bs, h2⟩ := reads_ledI N hb k'
  exact eq_dataH h1 h2 (els_shaped _) (ke_shaped_ints _) hu (by simpa only [PyData.eqv] using h)
theorem eq_els {a b : Addr} {us ws : List Value} {n n' : Nat} {es : List El} (N : News h₀ L s.heap news) (hs : ∀ p ∈ own, p ∈ news) (hs' : ∀ p ∈ own', p ∈ news) (ha : (a, listOf (List.toArray us) n) ∈ news) (hb : (b, listOf (List.toArray ws) n') ∈ news) (k : ElsIn own us es) (k' : ElsIn own' ws es) (hu : A.units + 64 < cLine)
    (h : Q (.bool true) s) : wpAny (model prog w) A (compareOp .Eq (.ref a) (.ref b)) Q E s := by
  obtain ⟨as, h1⟩ := reads_led N hs ha k
  obtain ⟨bs, h2⟩ := reads_led N hs' hb k'
  exact eq_dataH h1 h2 (els_shaped _) (els_shaped _) hu (by simpa only [PyData.eqv, eqv_same] using h)
theorem ne_els {a b : Addr} {us ws : List Value} {n n' : Nat} {es : List El} (N : News h₀ L s.heap news) (hs : ∀ p ∈ own, p ∈ news) (hs' : ∀ p ∈ own', p ∈ news) (ha : (a, listOf (List.toArray us) n) ∈ news) (hb : (b, listOf (List.toArray ws) n') ∈ news) (k : ElsIn own us es) (k' : ElsIn own' ws es) (hu : A.units + 64 < cLine)
    (h : Q (.bool false) s) : wpAny (model prog w) A (compareOp .NotEq (.ref a) (.ref b)) Q E s := by
  obtain ⟨as, h1⟩ := reads_led N hs ha k
  obtain ⟨bs, h2⟩ := reads_led N hs' hb k'
  exact ne_dataH h1 h2 (els_shaped _) (els_shaped _) hu (by simpa only [PyData.eqv, eqv_same, Bool.not_true] using h)
/-- a list of ints against the empty list -/
theorem ne_nil {a b : Addr} {us : List Value} {n n' : Nat} {xs : List Int} (N : News h₀ L s.heap news) (ha : (a, listOf (List.toArray us) n) ∈ news) (hb : (b, listOf #[] n') ∈ news) (k : IntsAre us xs) (hu : A.units + 64 < cLine)
    (h : Q (.bool (decide (xs ≠ []))) s) : wpAny (model prog w) A (compareOp .NotEq (.ref a) (.ref b)) Q E s := by
  obtain ⟨as, h1⟩ := reads_ledI N ha k
  refine ne_dataH h1 (.list (xs := []) (as := []) (N _ hb).1 rfl rfl .nil) (ke_shaped_ints _) (by decide) hu ?_
  have e : (!PyData.eqv (.list (xs.map PyData.int)) (.list [])) = decide (xs ≠ []) := by
    cases xs <;> simp [PyData.eqv, PyData.eqvAll]
  rw [e]; exact h
def toldD : Option (Int × Int) → PyData
  | none => .none
  | some (i, b) => .tuple [.int i, .int b]
theorem checkOut.reads {o : Option (Int × Int)} {r : Value} (N : News h₀ L s.heap news) (k : checkOut o news r) : ∃ as, Reads s.heap r (toldD o) as := by
  cases o with
  | none =>
    have : r = .none := k
    subst this
    exact ⟨_, .none⟩
  | some z =>
    obtain ⟨T, t, u, n, rfl, hT⟩ := k
    exact ⟨_, .tuple (N _ hT).1 rfl rfl (.cons (.int _ _) (.cons (.int _ _) .nil))⟩
theorem told_shaped (o : Option (Int × Int)) : SeqAt.shaped (toldD o) = true := by
  cases o with
  | none => decide
  | some z => rfl
theorem told_eqv (o : Option (Int × Int)) : PyData.eqv (toldD o) (toldD o) = true := by
  cases o with
  | none => simp [toldD, PyData.eqv]
  | some z => simp [toldD, PyData.eqv, PyData.eqvAll]
theorem ne_told {o : Option (Int × Int)} {r r' : Value} (N : News h₀ L s.heap news) (k : checkOut o news r) (k' : checkOut o news r') (hu : A.units + 64 < cLine) (h : Q (.bool false) s) : wpAny (model prog w) A (compareOp .NotEq r r') Q E s := by
  obtain ⟨as, h1⟩ := checkOut.reads N k
  obtain ⟨bs, h2⟩ := checkOut.reads N k'
  exact ne_dataH h1 h2 (told_shaped _) (told_shaped _) hu (by rw [told_eqv]; exact h)
theorem checkOut.mono {news' : List (Addr × Obj)} (hs : ∀ p ∈ news, p ∈ news') {o : Option (Int × Int)} {r : Value} (k : checkOut o news r) : checkOut o news' r := by
  cases o with
  | none => exact k
  | some z =>
    obtain ⟨T, t, u, n, rfl, hT⟩ := k
    exact ⟨T, t, u, n, rfl, hs _ hT⟩
end
end Mine
namespace Mine
/-- several witnesses, several parts, taken apart at once -/
inductive E1 {a : Type} (P : a → Prop) : Prop
  | mk (xa : a) (h : P xa) : E1 P
inductive E2 {a b : Type} (P : a → b → Prop) : Prop
  | mk (xa : a) (xb : b) (h : P xa xb) : E2 P
inductive E3 {a b c : Type} (P : a → b → c → Prop) : Prop
  | mk (xa : a) (xb : b) (xc : c) (h : P xa xb xc) : E3 P
inductive E4 {a b c d : Type} (P : a → b → c → d → Prop) : Prop
  | mk (xa : a) (xb : b) (xc : c) (xd : d) (h : P xa xb xc xd) : E4 P
inductive E5 {a b c d e : Type} (P : a → b → c → d → e → Prop) : Prop
  | mk (xa : a) (xb : b) (xc : c) (xd : d) (xe : e) (h : P xa xb xc xd xe) : E5 P
inductive E6 {a b c d e f : Type} (P : a → b → c → d → e → f → Prop) : Prop
  | mk (xa : a) (xb : b) (xc : c) (xd : d) (xe : e) (xf : f) (h : P xa xb xc xd xe xf) : E6 P
inductive E7 {a b c d e f g : Type} (P : a → b → c → d → e → f → g → Prop) : Prop
  | mk (xa : a) (xb : b) (xc : c) (xd : d) (xe : e) (xf : f) (xg : g) (h : P xa xb xc xd xe xf xg) : E7 P
inductive E8 {a b c d e f g h : Type} (P : a → b → c → d → e → f → g → h → Prop) : Prop
  | mk (xa : a) (xb : b) (xc : c) (xd : d) (xe : e) (xf : f) (xg : g) (xh : h) (h : P xa xb xc xd xe xf xg xh) : E8 P
inductive E9 {a b c d e f g h i : Type} (P : a → b → c → d → e → f → g → h → i → Prop) : Prop
  | mk (xa : a) (xb : b) (xc : c) (xd : d) (xe : e) (xf : f) (xg : g) (xh : h) (xi : i) (h : P xa xb xc xd xe xf xg xh xi) : E9 P
inductive E10 {a b c d e f g h i j : Type} (P : a → b → c → d → e → f → g → h → i → j → Prop) : Prop
  | mk (xa : a) (xb : b) (xc : c) (xd : d) (xe : e) (xf : f) (xg : g) (xh : h) (xi : i) (xj : j) (h : P xa xb xc xd xe xf xg xh xi xj) : E10 P
inductive A2 (pa pb : Prop) : Prop
  | mk : pa → pb → A2 pa pb
inductive A3 (pa pb pc : Prop) : Prop
  | mk : pa → pb → pc → A3 pa pb pc
inductive A4 (pa pb pc pd : Prop) : Prop
  | mk : pa → pb → pc → pd → A4 pa pb pc pd
inductive A5 (pa pb pc pd pe : Prop) : Prop
  | mk : pa → pb → pc → pd → pe → A5 pa pb pc pd pe
inductive A6 (pa pb pc pd pe pf : Prop) : Prop
  | mk : pa → pb → pc → pd → pe → pf → A6 pa pb pc pd pe pf
inductive A7 (pa pb pc pd pe pf pg : Prop) : Prop
  | mk : pa → pb → pc → pd → pe → pf → pg → A7 pa pb pc pd pe pf pg
inductive A8 (pa pb pc pd pe pf pg ph : Prop) : Prop
  | mk : pa → pb → pc → pd → pe → pf → pg → ph → A8 pa pb pc pd pe pf pg ph
inductive A9 (pa pb pc pd pe pf pg ph pi : Prop) : Prop
  | mk : pa → pb → pc → pd → pe → pf → pg → ph → pi → A9 pa pb pc pd pe pf pg ph pi
inductive A10 (pa pb pc pd pe pf pg ph pi pj : Prop) : Prop
  | mk : pa → pb → pc → pd → pe → pf → pg → ph → pi → pj → A10 pa pb pc pd pe pf pg ph pi pj
inductive A11 (pa pb pc pd pe pf pg ph pi pj pk : Prop) : Prop
  | mk : pa → pb → pc → pd → pe → pf → pg → ph → pi → pj → pk → A11 pa pb pc pd pe pf pg ph pi pj pk
inductive A12 (pa pb pc pd pe pf pg ph pi pj pk pl : Prop) : Prop
  | mk : pa → pb → pc → pd → pe → pf → pg → ph → pi → pj → pk → pl → A12 pa pb pc pd pe pf pg ph pi pj pk pl
inductive A13 (pa pb pc pd pe pf pg ph pi pj pk pl pm : Prop) : Prop
  | mk : pa → pb → pc → pd → pe → pf → pg → ph → pi → pj → pk → pl → pm → A13 pa pb pc pd pe pf pg ph pi pj pk pl pm
inductive A14 (pa pb pc pd pe pf pg ph pi pj pk pl pm pn : Prop) : Prop
  | mk : pa → pb → pc → pd → pe → pf → pg → ph → pi → pj → pk → pl → pm → pn → A14 pa pb pc pd pe pf pg ph pi pj pk pl pm pn
inductive A15 (pa pb pc pd pe pf pg ph pi pj pk pl pm pn po : Prop) : Prop
  | mk : pa → pb → pc → pd → pe → pf → pg → ph → pi → pj → pk → pl → pm → pn → po → A15 pa pb pc pd pe pf pg ph pi pj pk pl pm pn po
inductive A16 (pa pb pc pd pe pf pg ph pi pj pk pl pm pn po pp : Prop) : Prop
  | mk : pa → pb → pc → pd → pe → pf → pg → ph → pi → pj → pk → pl → pm → pn → po → pp → A16 pa pb pc pd pe pf pg ph pi pj pk pl pm pn po pp
inductive A17 (pa pb pc pd pe pf pg ph pi pj pk pl pm pn po pp pq : Prop) : Prop
  | mk : pa → pb → pc → pd → pe → pf → pg → ph → pi → pj → pk → pl → pm → pn → po → pp → pq → A17 pa pb pc pd pe pf pg ph pi pj pk pl pm pn po pp pq
/-- a fact that the walk is not to see -/
structure Kept (p : Prop) : Prop where
  out : p
/-- a flag: tests are split, not weighed -/
structure Quick : Prop where
  mk ::
theorem allLt_mem {d : Nat} {l : List (Addr × Obj)} (h : AllLt d l) : ∀ p ∈ l, @LT.lt Nat _ p.1 d := by
  induction l with
  | nil => intro p hp; cases hp
  | cons q r ih =>
    intro p hp
    rcases List.mem_cons.mp hp with rfl | hp
    · exact h.1
    · exact ih h.2 p hp
theorem menu_small {xs : List Int} (h : xs ∈ menu) : ∀ q ∈ xs, 0 ≤ q ∧ q < 6 := by
  simp only [menu, List.mem_cons, List.not_mem_nil, or_false] at h
  rcases h with rfl | rfl | rfl | rfl <;> decide
theorem ints_at {ws : List Value} {xs : List Int} (h : IntsAre ws xs) {z : Int} (z0 : 0 ≤ z) (z1 : z < (ws.length : Int)) : ∃ q t, ws[z.toNat]? = some (.int q t) ∧ xs[z.toNat]? = some q := by
  have hl := h.length
  have hlt : z.toNat < xs.length := by omega
  obtain ⟨t, ht⟩ := h.get z.toNat xs[z.toNat] (by simp [hlt])
  exact ⟨_, t, ht, List.getElem?_eq_getElem hlt⟩
theorem far_cells {L P : Nat} {o8 o7 o6 o5 o4 o3 o2 o1 : Obj} {rest : List (Addr × Obj)} (h : @LT.lt Nat _ (L + 8) P ∨ @LT.lt Nat _ P (L + 1)) (hr : ∀ p ∈ rest, p.1 ≠ P) : ∀ p ∈ cel L o8 o7 o6 o5 o4 o3 o2 o1 ++ rest, p.1 ≠ P := by
  intro p hp
  rcases List.mem_append.mp hp with hp | hp
  · have hp' : ∃ o k, 1 ≤ k ∧ k ≤ 8 ∧ p = ((L + k : Nat), o) := by
      simp only [cel, List.mem_cons, List.not_mem_nil, or_false] at hp
      rcases hp with rfl | rfl | rfl | rfl | rfl | rfl | rfl | rfl
      · exact ⟨_, 8, by omega, by omega, rfl⟩
      · exact ⟨_, 7, by omega, by omega, rfl⟩
      · exact ⟨_, 6, by omega, by omega, rfl⟩
      · exact ⟨_, 5, by omega, by omega, rfl⟩
      · exact ⟨_, 4, by omega, by omega, rfl⟩
      · exact ⟨_, 3, by omega, by omega, rfl⟩
      · exact ⟨_, 2, by omega, by omega, rfl⟩
      · exact ⟨_, 1, by omega, by omega, rfl⟩
    obtain ⟨o, k, h1, h2, rfl⟩ := hp'
    show (L + k : Nat) ≠ P
    omega
  · exact hr p hp
theorem append_led {prog : Program} {w : World} {A : Around} {E : Value → Shared → Prop} {s : Shared} {h₀ : Heap} {L P : Addr} {m : Str → Option Value} {rest : List (Addr × Obj)} {us : List Value} {n : Nat} {x : Value} {Q : Value → Shared → Prop}
    (F : Fr h₀ L s.heap m) (N : News h₀ L s.heap ((P, listOf (List.toArray us) n) :: rest)) (hP : ∀ p ∈ rest, p.1 ≠ P) (hsz : us.length ≤ 100)
    (h : ∀ h', Fr h₀ L h' m → News h₀ L h' ((P, listOf (List.toArray (us ++ [x])) (n + 1)) :: rest) → Q .none { s with heap := h' }) : wpAny (model prog w) A (call (.builtin "list.append") [.ref P, x]) Q E s := by
  refine append_K F N (.head hP) (fun h' F' N' => h h' F' ?_) (by rw [List.size_toArray, sizeLine_eq]; omega)
  have e : us.toArray.push x = (us ++ [x]).toArray := by simp
  rw [e] at N'
  exact N'
end Mine
namespace Mine
section
variable {prog : Program} {w : World} {A : Around} {h₀ : Heap} {L : Addr} {m : Str → Option Value} {env : Env} {ct elt : Expr} {x : Str} {scope : Scope} {cl : List (Str × Addr)}
def TEnd (prog : Program) (w : World) (A : Around) (h₀ : Heap) (L : Addr) (m : Str → Option Value) (elt : Expr) (envC : Env) (s₁ : Shared) (I : Addr) (oI : Obj) (C : Addr) (oC : Obj) (D : Addr) (ys : List Value) (S : List (Addr × Obj) → Prop) (J : List Value → List (Addr × Obj) → Prop) (E' : Value → Shared → Prop) (ok : Bool) (s' : Shared) : Prop :=
  if ok = true then wpAny (model prog w) A (eval elt envC) (LCg.CompEnd h₀ L m s₁ I oI C oC D (LCg.lst ys) S (fun y nw' => J (ys ++ [y]) nw')) E' s'
  else LCg.CompEnd h₀ L m s₁ I oI C oC D (LCg.lst ys) S (fun _ nw' => J ys nw') Value.none s'
theorem TEnd.mono {envC : Env} {s₁ : Shared} {I C D : Addr} {oI oC : Obj} {ys : List Value} {S S' : List (Addr × Obj) → Prop} {J J' : List Value → List (Addr × Obj) → Prop} {E' : Value → Shared → Prop} {ok : Bool} {s' : Shared} (hS : ∀ ys nw, S nw → J ys nw → S' nw) (hJ : ∀ ys nw, J ys nw → J' ys nw)
    (h : TEnd prog w A h₀ L m elt envC s₁ I oI C oC D ys S J E' ok s') : TEnd prog w A h₀ L m elt envC s₁ I oI C oC D ys S' J' E' ok s' := by
  unfold TEnd at h ⊢
  cases ok with
  | true =>
    rw [if_pos rfl] at h ⊢
    refine wpAny_mono h (fun y s'' hy => ?_) fun _ _ e => e
    obtain ⟨h', tk', nw', e1, e2, e3, e4, e5, e6⟩ := hy
    exact ⟨h', tk', nw', e1, e2, e3, e4, hS _ _ e5 e6, hJ _ _ e6⟩
  | false =>
    rw [if_neg Bool.false_ne_true] at h ⊢
    obtain ⟨h', tk', nw', e1, e2, e3, e4, e5, e6⟩ := h
    exact ⟨h', tk', nw', e1, e2, e3, e4, hS _ _ e5 e6, hJ _ _ e6⟩
theorem restT_ind {s : Shared} {S : List (Addr × Obj) → Prop} {P : Nat → Value → Prop} {Fin : List Value → List (Addr × Obj) → Prop} {news : List (Addr × Obj)} {n : Nat}
    (Inv : Nat → List Value → List (Addr × Obj) → Prop) (h0 : Inv 0 [] news)
    (step : ∀ i ys nw v I oI C oC D m₂ h tk (E' : Value → Shared → Prop), i < n → Inv i ys nw → P i v → LCg.NsObj oC m₂ → m₂ x = some v → Fr h₀ L h m → News h₀ L h ((I, oI) :: (C, oC) :: (D, LCg.lst ys) :: nw) → LCg.Off3 I C D nw → ((@Ne Nat I C) ∧ (@Ne Nat I D) ∧ (@Ne Nat C D)) →
      wpAny (model prog w) A (isTrue ct (compEnvC scope cl C env) (eval ct (compEnvC scope cl C env))) (TEnd prog w A h₀ L m elt (compEnvC scope cl C env) { s with heap := h, toks := tk } I oI C oC D ys S (fun ys' nw' => Inv (i + 1) ys' nw') E') E' { s with heap := h, toks := tk })
    (fin : ∀ ys nw, Inv n ys nw → Fin ys nw) : LCt.CompRestT prog w A h₀ L m env ct elt x scope cl s S P Fin n 0 [] news := by
  have key : ∀ k i ys nw, i + k = n → Inv i ys nw → LCt.CompRestT prog w A h₀ L m env ct elt x scope cl s S P Fin k i ys nw := by
    intro k
    induction k with
    | zero =>
      intro i ys nw hi hv
      refine LCt.CompRestT.zero (fin _ _ ?_)
      have : i = n := hi
      exact this ▸ hv
    | succ k ih =>
      intro i ys nw hi hv
      refine LCt.CompRestT.succ ?_
      intro v I oI C oC D m₂ h tk E' hP hC hx F N off ne
      refine wpAny_mono (step i ys nw v I oI C oC D m₂ h tk E' (by omega) hv hP hC hx F N off ne) (fun ok s' hy => ?_) fun _ _ e => e
      exact TEnd.mono (J' := fun ys' nw' => LCt.CompRestT prog w A h₀ L m env ct elt x scope cl s S P Fin k (i + 1) ys' nw') (fun _ _ a _ => a) (fun ys' nw' a => ih (i + 1) _ _ (by omega) a) hy
  exact key n 0 [] news (Nat.zero_add n) h0
theorem ranks_compT {s : Shared} {rk : Addr} {ro : Obj} {hs : Bool} {b n : Nat} {Fin : Shared → List Value → List (Addr × Obj) → Prop} {news : List (Addr × Obj)} (hro : (rk, ro) ∈ news) (hk : RanksO ro hs b n) (hn3 : n ≤ 3) (hh : A.handled = none) (F : Fr h₀ L s.heap m) (N : News h₀ L s.heap news)
    (Inv : Nat → List Value → List (Addr × Obj) → Prop) (h0 : Inv 0 [] news)
    (step : ∀ i ys nw t I oI C oC D m₂ h tk (E' : Value → Shared → Prop), i < n → (rk, ro) ∈ nw → Inv i ys nw → LCg.NsObj oC m₂ → m₂ x = some (.int (i : Int) t) → Fr h₀ L h m → News h₀ L h ((I, oI) :: (C, oC) :: (D, LCg.lst ys) :: nw) → LCg.Off3 I C D nw → ((@Ne Nat I C) ∧ (@Ne Nat I D) ∧ (@Ne Nat C D)) →
      wpAny (model prog w) A (isTrue ct (compEnvC scope cl C env) (eval ct (compEnvC scope cl C env))) (TEnd prog w A h₀ L m elt (compEnvC scope cl C env) { s with heap := h, toks := tk } I oI C oC D ys (fun nw' => (rk, ro) ∈ nw') (fun ys' nw' => Inv (i + 1) ys' nw') E') E' { s with heap := h, toks := tk })
    (fin : ∀ hp ys nw, (rk, ro) ∈ nw → Inv n ys nw → Fin { s with heap := hp } ys nw) : LCt.CompSrcT prog w A h₀ L m env ct elt x scope cl Fin (.ref rk) s := by
  have key : ∀ (hp : Heap) (S : List (Addr × Obj) → Prop) (P : Nat → Value → Prop), (∀ nw, (rk, ro) ∈ nw → S nw) → (∀ i v, i < n → P i v → ∃ t, v = Value.int (i : Int) t) →
      LCt.CompRestT prog w A h₀ L m env ct elt x scope cl { s with heap := hp } S P (Fin { s with heap := hp }) n 0 [] news := by
    intro hp S P hS hP
    refine restT_ind (fun i ys nw => (rk, ro) ∈ nw ∧ Inv i ys nw) ⟨hro, h0⟩ ?_ fun ys nw h => fin hp ys nw h.1 h.2
    intro i ys nw v I oI C oC D m₂ h tk E' hi hv hPv hC hx F' N' off ne
    obtain ⟨t, rfl⟩ := hP i v hi hPv
    refine wpAny_mono (step i ys nw t I oI C oC D m₂ h tk E' hi hv.1 hv.2 hC hx F' N' off ne) (fun ok s' hy => ?_) fun _ _ e => e
    unfold TEnd at hy ⊢
    cases ok with
    | true =>
      rw [if_pos rfl] at hy ⊢
      refine wpAny_mono hy (fun y s'' hy => ?_) fun _ _ e => e
      obtain ⟨h', tk', nw', e1, e2, e3, e4, e5, e6⟩ := hy
      exact ⟨h', tk', nw', e1, e2, e3, e4, hS _ e5, e5, e6⟩
    | false =>
      rw [if_neg Bool.false_ne_true] at hy ⊢
      obtain ⟨h', tk', nw', e1, e2, e3, e4, e5, e6⟩ := hy
      exact ⟨h', tk', nw', e1, e2, e3, e4, hS _ e5, e5, e6⟩
  have hrk := (N _ hro).1
  cases hk with
  | @range b t u v =>
    have hr : IsRange s.heap rk 0 (b : Int) 1 t u v := hrk
    have hc : b = 0 ∨ b = 1 ∨ b = 2 ∨ b = 3 := by omega
    have hsm : Builtin.Range.small 0 (b : Int) 1 = true := by rcases hc with rfl | rfl | rfl | rfl <;> decide
    have hrs : Builtin.Range.rangeSize 0 (b : Int) 1 = (b : Int) := by rcases hc with rfl | rfl | rfl | rfl <;> rfl
    refine LCt.CompSrcT.range hh F N hr hsm hrs (by rw [sizeLine_eq]; omega) fun g => key g _ _ (fun _ _ => True.intro) ?_
    rintro i _ _ ⟨t, rfl⟩
    exact ⟨t, by simp⟩
  | @one b k t =>
    refine LCt.CompSrcT.ledger hh F N hro (by show 1 ≤ _; rw [sizeLine_eq]; omega) fun g => key g _ _ (fun nw h => .inr ⟨_, h, rfl, _, rfl⟩) ?_
    intro i v hi hv
    have : i = 0 := by omega
    subst this
    exact ⟨t, by simpa using hv.symm⟩
end
def MadeL (els : List El) (c wd : Nat) (ps : List Int) (i : Nat) (ys : List Value) : Prop := (ys = [] ∧ ∀ r, r < i → ¬ Made els c wd ps r) ∨ ∃ r t, r < i ∧ ys = [.int (r : Int) t] ∧ Made els c wd ps r
theorem MadeL.zero {els : List El} {c wd : Nat} {ps : List Int} : MadeL els c wd ps 0 [] := .inl ⟨rfl, fun _ h => nomatch h⟩
theorem MadeL.yes {els : List El} {c wd : Nat} {brs : List Int} {hs : Bool} {ps : List Int} (h : LawIn els c wd brs hs) (hb : brs ∈ menu) {i n : Nat} {ys : List Value} {t : Tok} (hn : n = nR hs brs) (hi : i < n) (k : MadeL els c wd ps i ys) (m : Made els c wd ps i) : MadeL els c wd ps (i + 1) (ys ++ [.int (i : Int) t]) := by
  rcases k with ⟨rfl, _⟩ | ⟨r, u, hr, rfl, mr⟩
  · exact .inr ⟨i, t, Nat.lt_succ_self i, rfl, m⟩
  · have := made_one h hb (by omega) (by omega) mr m
    omega
theorem MadeL.no {els : List El} {c wd : Nat} {ps : List Int} {i : Nat} {ys : List Value} (k : MadeL els c wd ps i ys) (m : ¬ Made els c wd ps i) : MadeL els c wd ps (i + 1) ys := by
  rcases k with ⟨rfl, hr⟩ | ⟨r, u, hr, rfl, mr⟩
  · refine .inl ⟨rfl, fun r hlt => ?_⟩
    by_cases e : r = i
    · subst e; exact m
    · exact hr r (by omega)
  · exact .inr ⟨r, u, by omega, rfl, mr⟩
theorem nR_le {hs : Bool} {brs : List Int} (hb : brs ∈ menu) : nR hs brs ≤ 3 := by
  simp only [menu, List.mem_cons, List.not_mem_nil, or_false] at hb
  cases hs <;> rcases hb with rfl | rfl | rfl | rfl <;> decide
theorem RanksO.num {o : Obj} {hs : Bool} {brs : List Int} {n : Nat} (h : RanksO o hs brs.length n) : n = nR hs brs := by
  cases h with
  | range => rfl
  | one => rfl
theorem comp_back {h₀ h : Heap} {L I C D : Addr} {oI oC oD o8 o7 o6 o5 o4 o3 o2 o1 : Obj} {own tl : List (Addr × Obj)} (N : News h₀ L h (tl ++ ((I, oI) :: (C, oC) :: (D, oD) :: (cel L o8 o7 o6 o5 o4 o3 o2 o1 ++ own))))
    (hD : ∀ p ∈ tl, ∀ q ∈ (I, oI) :: (C, oC) :: (D, oD) :: (cel L o8 o7 o6 o5 o4 o3 o2 o1 ++ own), p.1 ≠ q.1) (off : LCg.Off3 I C D (cel L o8 o7 o6 o5 o4 o3 o2 o1 ++ own)) (far : Far L own) :
    ∃ own2, News h₀ L h ((I, oI) :: (C, oC) :: (D, oD) :: (cel L o8 o7 o6 o5 o4 o3 o2 o1 ++ own2)) ∧ LCg.Off3 I C D (cel L o8 o7 o6 o5 o4 o3 o2 o1 ++ own2) ∧ Far L own2 ∧ (∀ p ∈ own, p ∈ own2) := by
  refine ⟨tl ++ own, fun p hp => N p ?_, LCg.Off3.of fun p hp => ?_, ⟨fun p hp => ?_⟩, fun p hp => List.mem_append.mpr (.inr hp)⟩
  · simp only [List.mem_cons, List.mem_append] at hp ⊢
    rcases hp with hp | hp | hp | hp | hp | hp
    · exact .inr (.inl hp)
    · exact .inr (.inr (.inl hp))
    · exact .inr (.inr (.inr (.inl hp)))
    · exact .inr (.inr (.inr (.inr (.inl hp))))
    · exact .inl hp
    · exact .inr (.inr (.inr (.inr (.inr hp))))
  · have off' := off.mem
    rcases List.mem_append.mp hp with hp | hp
    · exact off' p (List.mem_append.mpr (.inl hp))
    · rcases List.mem_append.mp hp with hp | hp
      · exact ⟨hD p hp _ (.head _), hD p hp _ (.tail _ (.head _)), hD p hp _ (.tail _ (.tail _ (.head _)))⟩
      · exact off' p (List.mem_append.mpr (.inr hp))
  · rcases List.mem_append.mp hp with hp | hp
    · exact far_of (o8 := o8) (o7 := o7) (o6 := o6) (o5 := o5) (o4 := o4) (o3 := o3) (o2 := o2) (o1 := o1) fun q hq => hD p hp q (.tail _ (.tail _ (.tail _ (List.mem_append.mpr (.inl hq)))))
    · exact far.out p hp
theorem law_brOk {els : List El} {c wd : Nat} {brs : List Int} {hs : Bool} (h : LawIn els c wd brs hs) (hb : brs ∈ menu) {r : Nat} (hr : r < nR hs brs) : brOk (some (r : Int)) els := by
  intro xs hx
  have h1 := h.rank hb hr xs hx
  have h2 : xs.length ≤ 3 := by
    obtain ⟨i, hi⟩ := List.getElem?_of_mem hx
    rw [h.set i xs hi]
    simp only [menu, List.mem_cons, List.not_mem_nil, or_false] at hb
    rcases hb with rfl | rfl | rfl | rfl <;> decide
  show 0 ≤ (r : Int) ∧ (r : Int) < (xs.length : Int) ∧ xs.length ≤ 1000
  omega
theorem law_brOk0 {els : List El} {c wd : Nat} {brs : List Int} {hs : Bool} (h : LawIn els c wd brs hs) (hb : brs ∈ menu) : brOk none els := by
  have h1 : 0 < nR hs brs := by
    simp only [menu, List.mem_cons, List.not_mem_nil, or_false] at hb
    cases hs <;> rcases hb with rfl | rfl | rfl | rfl <;> decide
  exact fun xs hx => law_brOk h hb h1 xs hx
theorem wIdx_small {c wd : Nat} {ps : List Int} (h : ∀ p ∈ ps, 0 ≤ p ∧ p < 6) : ∀ i, wIdx c wd ps = some i → 0 ≤ i ∧ i < 1000 := by
  intro i hi
  unfold wIdx at hi
  split at hi
  · cases hi
    cases hg : ps[wd]? with
    | none => rw [List.getD_eq_getElem?_getD, hg]; decide
    | some q =>
      have := h q (List.mem_of_getElem? hg)
      rw [List.getD_eq_getElem?_getD, hg]
      show 0 ≤ q ∧ q < 1000
      omega
  · cases hi
theorem noCell_tup {vs : List Value} {n : Nat} : NoCell (tupOf vs n) := fun v h => nomatch h
theorem checkOut_un {news own : List (Addr × Obj)} (hs : ∀ p ∈ news, NoCell p.2 → p ∈ own) {o : Option (Int × Int)} {r : Value} (k : checkOut o news r) : checkOut o own r := by
  cases o with
  | none => exact k
  | some z =>
    obtain ⟨T, t, u, n, rfl, hT⟩ := k
    exact ⟨T, t, u, n, rfl, hs _ hT noCell_tup⟩
theorem menu_lay {els : List El} (h : ∀ e ∈ els, e.ok) : ∀ xs, El.set xs ∈ els → PyData.layable0 (.list (xs.map .int)) = true := by
  intro xs hx
  have hb : xs ∈ menu := h _ hx
  simp only [menu, List.mem_cons, List.not_mem_nil, or_false] at hb
  rcases hb with rfl | rfl | rfl | rfl <;> decide
section
variable {prog : Program} {w : World} {A : Around} {E : Value → Shared → Prop} {s : Shared} {h₀ : Heap} {L : Addr} {news : List (Addr × Obj)} {Q : Value → Shared → Prop}
theorem ne_nil0 {a b : Addr} {n n' : Nat} (N : News h₀ L s.heap news) (ha : (a, listOf (List.toArray []) n) ∈ news) (hb : (b, listOf (List.toArray []) n') ∈ news) (hu : A.units + 64 < cLine) (h : Q (.bool false) s) : wpAny (model prog w) A (compareOp .NotEq (.ref a) (.ref b)) Q E s :=
  ne_nil (xs := []) N ha hb .nil hu h
theorem ne_nil1 {a b : Addr} {n n' : Nat} {i : Int} {t : Tok} (N : News h₀ L s.heap news) (ha : (a, listOf (List.toArray [.int i t]) n) ∈ news) (hb : (b, listOf (List.toArray []) n') ∈ news) (hu : A.units + 64 < cLine) (h : Q (.bool true) s) : wpAny (model prog w) A (compareOp .NotEq (.ref a) (.ref b)) Q E s :=
  ne_nil (xs := [i]) N ha hb (.cons _ _ .nil) hu h
end
theorem fill_noset {i : Option Int} {r : Nat} {els : List El} : ∀ xs, El.set xs ∉ els.map (fillE i r) := by
  intro xs h
  obtain ⟨e, _, he⟩ := List.mem_map.mp h
  cases e with
  | none => cases i <;> cases he
  | int k => cases he
  | set ys => cases he
section
variable {prog : Program} {w : World} {A : Around} {E : Value → Shared → Prop} {s : Shared} {h₀ : Heap} {L : Addr} {news : List (Addr × Obj)} {Q : Value → Shared → Prop}
theorem in_made0 {a : Addr} {n : Nat} {k : Int} {t : Tok} (N : News h₀ L s.heap news) (ha : (a, listOf (List.toArray []) n) ∈ news) (h : Q (.bool false) s) : wpAny (model prog w) A (compareOp .In (.int k t) (.ref a)) Q E s :=
  SeqAt.in_listAt (fun _ => false) ⟨_, (N _ ha).1, rfl, _, rfl⟩ (fun y hy => by simp at hy) (by simpa using h)
theorem in_made1 {a : Addr} {n : Nat} {k i : Int} {t u : Tok} (N : News h₀ L s.heap news) (ha : (a, listOf (List.toArray [.int i u]) n) ∈ news) (h : Q (.bool (i == k)) s) : wpAny (model prog w) A (compareOp .In (.int k t) (.ref a)) Q E s := by
  refine SeqAt.in_listAt (fun y => i == k) ⟨_, (N _ ha).1, rfl, _, rfl⟩ (fun y hy => ?_) (by simpa using h)
  have : y = .int i u := by simpa using hy
  subst this
  exact SeqAt.EqAt.int_int _ _ _ _
end
section
variable {prog : Program} {w : World} {A : Around} {E : Value → Shared → Prop} {s : Shared} {h₀ : Heap} {L : Addr} {news : List (Addr × Obj)} {Q : Value → Shared → Prop}
theorem in_made_yes {a : Addr} {n : Nat} {k i : Int} {t u : Tok} (e : i = k) (N : News h₀ L s.heap news) (ha : (a, listOf (List.toArray [.int i u]) n) ∈ news) (h : Q (.bool true) s) : wpAny (model prog w) A (compareOp .In (.int k t) (.ref a)) Q E s :=
  in_made1 N ha (by rw [beq_iff_eq.mpr e]; exact h)
theorem in_made_no {a : Addr} {n : Nat} {k i : Int} {t u : Tok} (e : i ≠ k) (N : News h₀ L s.heap news) (ha : (a, listOf (List.toArray [.int i u]) n) ∈ news) (h : Q (.bool false) s) : wpAny (model prog w) A (compareOp .In (.int k t) (.ref a)) Q E s :=
  in_made1 N ha (by rw [beq_eq_false_iff_ne.mpr e]; exact h)
end
end Mine
namespace Mine
structure IdxInv (cells : List (Addr × Obj)) (i : Nat) (ys : List Value) (nw : List (Addr × Obj)) : Prop where
  out : nw = cells ∧ ∃ is : List Int, is.length = i ∧ IntsAre ys is ∧ ∀ i ∈ is, 0 ≤ i ∧ i < 5
local macro_rules | `(tactic| k_mem) => `(tactic| ((repeat (first | with_reducible assumption | exact List.mem_cons_self .. | refine List.mem_cons_of_mem _ ?_ | (refine List.mem_append.mpr (Or.inl ?_); ((repeat (first | with_reducible assumption | exact List.mem_cons_self .. | refine List.mem_cons_of_mem _ ?_)); done)) | refine List.mem_append.mpr (Or.inr ?_))); done))
local macro_rules | `(tactic| walk_at "call ref") => `(tactic| ((with_reducible show wpAny _ _ (call (Value.ref _) _ _) _ _ _); refine Stop.out ?_))
theorem sub_item {prog : Program} {w : World} {A : Around} {E : Value → Shared → Prop} {s : Shared} {value slice : PySem.Expr} {l : Addr} {vs : List Value} {k : Int} {u : Tok} {x : Value} {Q : Value → Shared → Prop} (hl : s.heap.IsList l vs.toArray)
    (h0 : 0 ≤ k) (hfit : k < 2 ^ 63) (hx : vs[k.toNat]? = some x) (h : Q x s)
    (hs : subscripted slice false (.ref l) (.int k u) = operate [.ref l, .int k u] (getItem (.ref l) (.int k u)) := by with_unfolding_all rfl) :
    wpAny (model prog w) A (subscriptTail value slice (.ref l) (.int k u)) Q E s :=
  tail_any hl.typeIs slot_list_getitem.lookup (getItem_listL hl h0 hfit hx h) hs
theorem ElsIn.set' {news : List (Addr × Obj)} {vs : List Value} {ds : List El} (h : ElsIn news vs ds) {v : Value} {d : El} (k : ElIn news v d) : ∀ i : Nat, ElsIn news (vs.set i v) (ds.set i d) := by
  induction h with
  | nil => exact fun _ => .nil
  | cons h1 h2 ih =>
    intro i
    cases i with
    | zero => exact .cons k h2
    | succ i => exact .cons h1 (ih i)
theorem ElsIn.ofInts {news : List (Addr × Obj)} {vs : List Value} {is : List Int} (h : IntsAre vs is) : ElsIn news vs (is.map El.int) := by
  induction h with
  | nil => exact .nil
  | cons n t _ ih => exact .cons (.int n t) ih
theorem menu_len {brs : List Int} (h : brs ∈ menu) : 2 ≤ brs.length ∧ brs.length ≤ 3 := by
  simp only [menu, List.mem_cons, List.not_mem_nil, or_false] at h
  rcases h with rfl | rfl | rfl | rfl <;> decide
theorem news_tl {h₀ h : Heap} {L : Addr} {x : Addr × Obj} {l : List (Addr × Obj)} (N : News h₀ L h (x :: l)) : News h₀ L h l := fun p hp => N p (List.mem_cons_of_mem _ hp)
theorem push_led {h₀ h : Heap} {L : Addr} {m : Str → Option Value} {news : List (Addr × Obj)} (F : Fr h₀ L h m) (N : News h₀ L h news) (o : Obj) (ho : o.isFreed = false) :
    Fr h₀ L (h.push o) m ∧ News h₀ L (h.push o) ((h.objs.size, o) :: news) ∧ ∀ p ∈ news, @LT.lt Nat _ p.1 h.objs.size := by
  have up : ∀ b o', h.get? b = some o' → (h.push o).get? b = some o' := fun b o' e => Heap.get?_push_of_some _ e
  refine ⟨F.keeps up, fun p hp => ?_, fun p hp => Heap.lt_size (N p hp).1⟩
  rcases List.mem_cons.mp hp with rfl | hp
  · exact ⟨Heap.get?_push_size _ ho, Ne.symm (Nat.ne_of_lt F.ns.lt), next_is_new F⟩
  · exact N.grown up p hp
theorem range_led {prog : Program} {w : World} {A : Around} {E : Value → Shared → Prop} {s : Shared} {h₀ : Heap} {L : Addr} {m : Str → Option Value} {news : List (Addr × Obj)} {n : Nat} {tn : Tok} {Q : Value → Shared → Prop} (F : Fr h₀ L s.heap m) (N : News h₀ L s.heap news)
    (h : ∀ (rk : Addr) (t u v : Tok) (h' : Heap) (tk' : Nat), Fr h₀ L h' m → News h₀ L h' ((rk, rangeObj n t u v) :: news) → (∀ p ∈ news, @LT.lt Nat _ p.1 rk) → Q (.ref rk) { s with heap := h', toks := tk' }) :
    wpAny (model prog w) A (call (.type "range") [.int (n : Int) tn]) Q E s := by
  refine call_range_1 ?_
  obtain ⟨F1, N1, l1⟩ := push_led F N (rangeObj n s.toks tn (s.toks + 1)) rfl
  exact h _ _ _ _ _ _ F1 N1 l1
structure LoopJ (L : Nat) (o5 o4 o3 o2 o1 : Obj) (own4 : List (Addr × Obj)) (D D2 x2 rk : Addr) (m : Str → Option Value) (nx : List (Addr × Obj)) : Prop where
  out : E7 fun (o8 o7 o6 : Obj) (v8 v7 v6 : Option Value) (own : List (Addr × Obj)) => A10 (nx = cel L o8 o7 o6 o5 o4 o3 o2 o1 ++ own) (o8.data = .cell v8) (o7.data = .cell v7) (o6.data = .cell v6) (Far L own) ((∀ p ∈ own4, p ∈ own)) (m (Str.ofString "indexes") = some (.ref D)) (m (Str.ofString "branches") = some (.ref D2)) (m (Str.ofString "again") = some (.ref x2)) (m (Str.ofString "ranks") = some (.ref rk))
theorem mem_sw {x : Addr × Obj} {own cells : List (Addr × Obj)} {p : Addr × Obj} (hp : p ∈ cells ++ x :: own) : p ∈ x :: (cells ++ own) := by
  rcases List.mem_append.mp hp with hp | hp
  · exact List.mem_cons_of_mem _ (List.mem_append.mpr (.inl hp))
  · rcases List.mem_cons.mp hp with rfl | hp
    · exact List.mem_cons_self ..
    · exact List.mem_cons_of_mem _ (List.mem_append.mpr (.inr hp))
theorem mem_mv {x : Addr × Obj} {own cells : List (Addr × Obj)} {p : Addr × Obj} (hp : p ∈ x :: (cells ++ own)) : p ∈ own ++ x :: cells := by
  rcases List.mem_cons.mp hp with rfl | hp
  · exact List.mem_append.mpr (.inr (List.mem_cons_self ..))
  · rcases List.mem_append.mp hp with hp | hp
    · exact List.mem_append.mpr (.inr (List.mem_cons_of_mem _ hp))
    · exact List.mem_append.mpr (.inl hp)
local macro_rules | `(tactic| k_all) => `(tactic| exact Far.ne (by assumption) (by omega) (by omega))
local macro_rules | `(tactic| walk_at "call builtin:isinstance") => `(tactic| ((with_reducible show wpAny _ _ (call (.builtin "isinstance") [Value.ref _, Value.type "list"]) _ _ _); k_dflt (refine' isi_list ?N ?m ?_; (case N => k_asm); (case m => k_mem); k_whole)))
local macro_rules | `(tactic| walk_at "call builtin:list.append") => `(tactic| ((with_reducible show wpAny _ _ (call (.builtin "list.append") [Value.ref _, _]) _ _ _); refine Stop.out ?_))
local macro_rules | `(tactic| walk_at "setItem ref int") => `(tactic| (refine Stop.out ?_))
local macro_rules | `(tactic| walk_at "call type:str") => `(tactic| (refine Stop.out ?_))
local macro_rules | `(tactic| walk_at "call builtin:len") => `(tactic| ((with_reducible show wpAny _ _ (call (.builtin "len") [Value.ref _]) _ _ _); k_dflt (refine' len_led ?N ?m ?e ?b ?_; (case N => k_asm); (case m => k_mem); (case e => first | assumption | exact rfl); (case b => omega); k_whole)))
local macro_rules | `(tactic| walk_at "call type:range") => `(tactic| ((with_reducible show wpAny _ _ (call (.type "range") [Value.int (Nat.cast (List.length _)) _]) _ _ _); refine Stop.out ?_))
local macro_rules | `(tactic| walk_at "pyIter ref") => `(tactic| (refine Stop.out ?_))
local macro_rules | `(tactic| walk_at "subscriptTail") => `(tactic| (refine Stop.out ?_))
local macro_rules | `(tactic| walk_at "compareOp Eq ref ref") => `(tactic| (refine Stop.out ?_))
local macro_rules | `(tactic| walk_at "compareOp NotEq ref ref") => `(tactic| (refine Stop.out ?_))
local macro_rules | `(tactic| walk_at "CompEnd") => `(tactic| ((rename Quick => hQq); refine Stop.out ?_))
local macro_rules | `(tactic| walk_at "compareOp In int ref") => `(tactic| (refine Stop.out ?_))
local macro_rules | `(tactic| walk_at "TEnd") => `(tactic| (refine Stop.out ?_))
local macro_rules | `(tactic| walk_at "UPost") => `(tactic| (refine Stop.out ?_))
local macro_rules | `(tactic| walk_at "CompSrcT") => `(tactic| (refine Stop.out ?_))
local macro_rules | `(tactic| walk_at "CompSrc") => `(tactic| (refine Stop.out ?_))
local macro_rules | `(tactic| walk_at "call ref") => `(tactic| ((with_reducible show wpAny _ _ (call (Value.ref 856) _ _) _ _ _); k_dflt (refine' num_use (A₀ := callerA) (outer := []) (by assumption) (by assumption) (by assumption) (by assumption) (by k_asm) (by k_asm) (by k_asm) (by assumption) rfl ?p0 ?p1 ?pd ?pu ?_; (case p0 => omega); (case p1 => omega); (case pd => decide); (case pu => decide); intro t8 h8 tk8 F8 N8)))
local macro_rules | `(tactic| walk_at "And") => `(tactic| ((with_reducible show Flow.next = Flow.next ∧ _); refine ⟨rfl, ?_⟩))
local macro_rules | `(tactic| walk_at "ite") => `(tactic| ((rename Quick => hQq); k_openite; first
  | with_reducible refine ite_tt ?_ | with_reducible refine ite_ff ?_
  | refine ite_pos (by with_reducible assumption) ?_ | refine ite_neg (by with_reducible assumption) ?_ | refine ite_isFalse (by with_reducible assumption) ?_
  | with_reducible refine split_not ?_
  | (with_reducible refine split_ine ?_ ?_ <;> intro _) | (with_reducible refine split_ieq ?_ ?_ <;> intro _)
  | (with_reducible refine split_dec ?_ ?_ <;> intro _) | (with_reducible refine split_bool ?_ ?_ <;> intro _)))
theorem law_holds.tw7062847971049655297 : True := trivial
theorem law_holds.tw6156673074769690058 : True := trivial
theorem law_holds.tw660297872995803996 : True := trivial
theorem law_holds.tw939789544308352329 : True := trivial
theorem law_holds.tw8170779377897787297 : True := trivial
theorem law_holds.tw8441880690091102137 : True := trivial
theorem law_holds.tw1099259369241382048 : True := trivial
theorem law_holds.tw2932269644470136557 : True := trivial
theorem law_holds.tw11463670642173560981 : True := trivial
theorem law_holds.tw9423440377400516374 : True := trivial
theorem law_holds.tw1341266762083198811 : True := trivial
theorem law_holds.tw11258418251754256542 : True := trivial
theorem law_holds.tw1861640637056946757 : True := trivial
theorem law_holds.tw11803358882649189518 : True := trivial
theorem law_holds.tw2903333896348957400 : True := trivial
theorem law_holds.tw1755247457520882261 : True := trivial
theorem law_holds.tw18116031599527039140 : True := trivial
theorem law_holds.tw1567021292681222707 : True := trivial
theorem law_holds.tw2981358437369204500 : True := trivial
theorem law_holds.tw13756832539634530601 : True := trivial
theorem law_holds.tw16827775902095551856 : True := trivial
theorem law_holds.tw15191720212996534143 : True := trivial
theorem law_holds.tw8701503649254672115 : True := trivial
theorem law_holds.tw18326849912455186884 : True := trivial
theorem law_holds.tw8708112909536032832 : True := trivial
theorem law_holds.tw881140697980615281 : True := trivial
theorem law_holds.tw16898189318038581234 : True := trivial
theorem law_holds.tw1258919526383655059 : True := trivial
theorem law_holds.tw11206171021150027133 : True := trivial
theorem law_holds.tw2127001594154878533 : True := trivial
theorem law_holds.tw17899081815984039989 : True := trivial
theorem law_holds.tw8634839017697508684 : True := trivial
theorem law_holds.tw7633514076036925393 : True := trivial
theorem law_holds.tw480292947269760891 : True := trivial
theorem law_holds.tw15732109348078318572 : True := trivial
theorem law_holds.tw13860468906599667430 : True := trivial
theorem law_holds.tw14051398506283589457 : True := trivial
theorem law_holds.tw16947615914383616782 : True := trivial
theorem law_holds.tw3927331946688356228 : True := trivial
theorem law_holds.tw10897144627088453450 : True := trivial
theorem law_holds.tw5432952435368640112 : True := trivial
theorem law_holds.tw3912811242725288453 : True := trivial
theorem law_holds.tw3046938939346580660 : True := trivial
theorem law_holds.tw8509427752941578312 : True := trivial
theorem law_holds.tw3850375180904979519 : True := trivial
theorem law_holds.tw7604666192120794032 : True := trivial
theorem law_holds.tw15198507701814350386 : True := trivial
theorem law_holds.tw15123554796541802991 : True := trivial
theorem law_holds.tw3816018429785431304 : True := trivial
theorem law_holds.tw7346270606818648071 : True := trivial
theorem law_holds.tw15472126771306010800 : True := trivial
theorem law_holds.tw11625900857008200698 : True := trivial
theorem law_holds.tw3882250662718909693 : True := trivial
theorem law_holds.tw2782584491509435139 : True := trivial
theorem law_holds.tw4568741812840581045 : True := trivial
theorem law_holds.tw16565472829066338987 : True := trivial
theorem law_holds.tw2139172203440323022 : True := trivial
theorem law_holds.tw2395105632611409283 : True := trivial
theorem law_holds.tw16804138575897400367 : True := trivial
theorem law_holds.tw7120836010843673076 : True := trivial
theorem law_holds.tw13037468584768466635 : True := trivial
theorem law_holds.tw13590972695719381181 : True := trivial
theorem law_holds.tw14498155544194170393 : True := trivial
theorem law_holds.tw10320256576048536287 : True := trivial
theorem law_holds.tw17529362906406652863 : True := trivial
theorem law_holds.tw15333956030411951890 : True := trivial
theorem law_holds.tw17137235678499792623 : True := trivial
theorem law_holds.tw14484030737994471886 : True := trivial
theorem law_holds.tw8210953160692291510 : True := trivial
theorem law_holds.tw631828861560075746 : True := trivial
theorem law_holds.tw4926307855859175397 : True := trivial
theorem law_holds.tw14774650325386425613 : True := trivial
theorem law_holds.tw15543422488883774174 : True := trivial
theorem law_holds.tw1172607208729018732 : True := trivial
theorem law_holds.tw14892801356780361778 : True := trivial
theorem law_holds.tw17974257514489008736 : True := trivial
theorem law_holds.tw2602977815382960713 : True := trivial
theorem law_holds.tw17334856725959723724 : True := trivial
theorem law_holds.tw9785522067705436687 : True := trivial
theorem law_holds.tw13342137609418717338 : True := trivial
theorem law_holds.tw18155977372800253590 : True := trivial
theorem law_holds.tw1819975233463548508 : True := trivial
theorem law_holds.tw11013469107912001948 : True := trivial
theorem law_holds.tw18255678716917950113 : True := trivial
theorem law_holds.tw4515466672771955728 : True := trivial
theorem law_holds.tw16060522237011120904 : True := trivial
theorem law_holds.tw18052157593426965832 : True := trivial
theorem law_holds.tw14957179600199517237 : True := trivial
theorem law_holds.tw6869992995446874880 : True := trivial
theorem law_holds.tw15274831704391544125 : True := trivial
theorem law_holds.tw866902197054423042 : True := trivial
theorem law_holds.tw10786324246584961897 : True := trivial
theorem law_holds.tw4659908028345291762 : True := trivial
theorem law_holds.tw3339164412607631549 : True := trivial
theorem law_holds.tw897403712396507413 : True := trivial
theorem law_holds.tw11169275537108399364 : True := trivial
theorem law_holds.tw13656764964264320472 : True := trivial
theorem law_holds.tw1393039868726904873 : True := trivial
theorem law_holds.tw8549365171731915398 : True := trivial
theorem law_holds.tw17183477848116922584 : True := trivial
theorem law_holds.tw2088057726675268939 : True := trivial
theorem law_holds.tw4358403320081769719 : True := trivial
theorem law_holds.tw436970716684534385 : True := trivial
theorem law_holds.tw13841927423027058892 : True := trivial
theorem law_holds.tw8916135115820964548 : True := trivial
theorem law_holds.tw3329330481660614911 : True := trivial
theorem law_holds.tw664576680770170031 : True := trivial
theorem law_holds.tw1722738952054099684 : True := trivial
theorem law_holds.tw17294823503141414406 : True := trivial
theorem law_holds.tw11779019793772500504 : True := trivial
theorem law_holds.tw7404543985812422374 : True := trivial
theorem law_holds.tw1191432763711471526 : True := trivial
theorem law_holds.tw17156363617357476176 : True := trivial
theorem law_holds.tw5212653520564569363 : True := trivial
theorem law_holds.tw17046799393618780204 : True := trivial
theorem law_holds.tw15821428540868651055 : True := trivial
theorem law_holds.tw15526298677375409021 : True := trivial
theorem law_holds.tw1622690429015379626 : True := trivial
theorem law_holds.tw14534841699081444447 : True := trivial
theorem law_holds.tw6118445216106802109 : True := trivial
theorem law_holds.tw3012480247710183994 : True := trivial
theorem law_holds.tw12179464114496422 : True := trivial
theorem law_holds.tw16113039383946167999 : True := trivial
theorem law_holds.tw16092355726972411579 : True := trivial
theorem law_holds.tw13791147489807684654 : True := trivial
theorem law_holds.tw2376695672464595844 : True := trivial
theorem law_holds.tw10983241140555628109 : True := trivial
theorem law_holds.tw12134956360726941196 : True := trivial
theorem law_holds.tw12320438053989627958 : True := trivial
theorem law_holds.tw13253626941996190775 : True := trivial
theorem law_holds.tw11378576750377235499 : True := trivial
theorem law_holds.tw2644310842459337959 : True := trivial
theorem law_holds.tw6633459197191319014 : True := trivial
theorem law_holds.tw3808703085821546077 : True := trivial
theorem law_holds.tw14908662282237933112 : True := trivial
theorem law_holds.tw12280936224243050094 : True := trivial
theorem law_holds.tw4030767218360268280 : True := trivial
theorem law_holds.tw11633083819707477107 : True := trivial
theorem law_holds.tw2414361068126709639 : True := trivial
theorem law_holds.tw5224811545321949972 : True := trivial
theorem law_holds.tw10264638600885302300 : True := trivial
theorem law_holds.tw15032829636229128562 : True := trivial
theorem law_holds.tw13109879092706997587 : True := trivial
theorem law_holds.tw15448297888555860652 : True := trivial
theorem law_holds.tw18312799740870528207 : True := trivial
theorem law_holds.tw16873695467490121585 : True := trivial
theorem law_holds.tw17305254018735503138 : True := trivial
theorem law_holds.tw2199771004791424345 : True := trivial
theorem law_holds.tw312863333873483875 : True := trivial
theorem law_holds.tw8570087061310353148 : True := trivial
theorem law_holds.tw14986940661400309508 : True := trivial
theorem law_holds.tw10108825076125807744 : True := trivial
theorem law_holds.tw13663051387528795968 : True := trivial
theorem law_holds.tw1737005901722704485 : True := trivial
theorem law_holds.tw8285764192309689115 : True := trivial
theorem law_holds.tw16561980033783445034 : True := trivial
theorem law_holds.tw2143268655074302082 : True := trivial
theorem law_holds.tw3584490593718003838 : True := trivial
theorem law_holds.tw13983371404066579822 : True := trivial
theorem law_holds.tw2340080995546993249 : True := trivial
theorem law_holds.tw1053317679998426468 : True := trivial
theorem law_holds.tw17607630403765710837 : True := trivial
theorem law_holds.tw16085450786879632459 : True := trivial
theorem law_holds.tw16691439815215545270 : True := trivial
theorem law_holds.tw8803770534105395610 : True := trivial
theorem law_holds.tw7014720503175028613 : True := trivial
theorem law_holds.tw1024454922138811184 : True := trivial
theorem law_holds.tw15162217921772873613 : True := trivial
theorem law_holds.tw3350424162675223093 : True := trivial
theorem law_holds.tw2856731137302751260 : True := trivial
theorem law_holds.tw245764215241151709 : True := trivial
theorem law_holds.tw2112619612379961697 : True := trivial
theorem law_holds.tw2384872892506856444 : True := trivial
theorem law_holds.tw3707998875871990840 : True := trivial
theorem law_holds.tw11956893519032503956 : True := trivial
theorem law_holds.tw6254736894362409555 : True := trivial
theorem law_holds.tw10958410103948607464 : True := trivial
theorem law_holds.tw12835091436910803158 : True := trivial
theorem law_holds.tw16104154289035658226 : True := trivial
theorem law_holds.tw16805829885119392726 : True := trivial
theorem law_holds.tw11807458097852795031 : True := trivial
theorem law_holds.tw17248354013995264833 : True := trivial
theorem law_holds.tw8785698371604719795 : True := trivial
theorem law_holds.tw4150838340823326808 : True := trivial
theorem law_holds.tw5994716906283268228 : True := trivial
theorem law_holds.tw14421849669547354848 : True := trivial
theorem law_holds.tw908389787484368193 : True := trivial
theorem law_holds.tw5731563423909890137 : True := trivial
theorem law_holds.tw9276237560276512257 : True := trivial
theorem law_holds.tw8312341600987523519 : True := trivial
theorem law_holds.tw13028658284911697911 : True := trivial
theorem law_holds.tw14281342344845405768 : True := trivial
theorem law_holds.tw14789792462180790578 : True := trivial
theorem law_holds.tw9826770418859484059 : True := trivial
theorem law_holds.tw8695310864119093835 : True := trivial
theorem law_holds.tw5640673133297012132 : True := trivial
theorem law_holds.tw4287175125982129218 : True := trivial
theorem law_holds.tw12684681026606017882 : True := trivial
theorem law_holds.tw12442163767917924457 : True := trivial
theorem law_holds.tw5037970770195530229 : True := trivial
theorem law_holds.tw3196237028118051783 : True := trivial
theorem law_holds.tw1270187457972704292 : True := trivial
theorem law_holds.tw18200972181404202854 : True := trivial
theorem law_holds.tw2002369845011919132 : True := trivial
theorem law_holds.tw12293519974356525696 : True := trivial
theorem law_holds.tw3974387499553966400 : True := trivial
theorem law_holds.tw9432397437662838624 : True := trivial
theorem law_holds.tw5044595872519035376 : True := trivial
theorem law_holds.tw6572314629012105047 : True := trivial
theorem law_holds.tw12419048959643632839 : True := trivial
theorem law_holds.tw18340598423539479173 : True := trivial
theorem law_holds.tw17687412246758094834 : True := trivial
theorem law_holds.tw6952626026076278478 : True := trivial
theorem law_holds.tw10812634152524527747 : True := trivial
theorem law_holds.tw1419239623039772522 : True := trivial
theorem law_holds.tw5298563615123868993 : True := trivial
theorem law_holds.tw5700548256593830582 : True := trivial
theorem law_holds.tw5277994541964179845 : True := trivial
theorem law_holds.tw8040771413219435098 : True := trivial
theorem law_holds.tw8131574967351443871 : True := trivial
theorem law_holds.tw8856317710758748564 : True := trivial
theorem law_holds.tw2322801206320994539 : True := trivial
theorem law_holds.tw13025991283127020399 : True := trivial
theorem law_holds.tw16184459414616452189 : True := trivial
theorem law_holds.tw8432627066985610756 : True := trivial
theorem law_holds.tw16321023544550192223 : True := trivial
theorem law_holds.tw6971163664164004865 : True := trivial
theorem law_holds.tw16978406815995349258 : True := trivial
theorem law_holds.tw16009327648451700120 : True := trivial
theorem law_holds.tw7510824731391710808 : True := trivial
theorem law_holds.tw13425932534011304816 : True := trivial
theorem law_holds.tw12595757733621342550 : True := trivial
theorem law_holds.tw131357086916946640 : True := trivial
theorem law_holds.tw17499823404086765753 : True := trivial
theorem law_holds.tw6127397645498528670 : True := trivial
theorem law_holds.tw9731194254967571310 : True := trivial
theorem law_holds.tw10486713781251687710 : True := trivial
theorem law_holds.tw12411438589965969376 : True := trivial
theorem law_holds.tw2924946361707170262 : True := trivial
theorem law_holds.tw5842969613912506279 : True := trivial
theorem law_holds.tw2788888992717563140 : True := trivial
theorem law_holds.tw6265907326580845545 : True := trivial
theorem law_holds.tw12977093529070104392 : True := trivial
theorem law_holds.tw180908045013255413 : True := trivial
theorem law_holds.tw1799985010008347273 : True := trivial
theorem law_holds.tw9648503400671879409 : True := trivial
theorem law_holds.tw8804120190785687885 : True := trivial
theorem law_holds.tw193754988921808689 : True := trivial
theorem law_holds.tw17253903310271361901 : True := trivial
theorem law_holds.tw15621117886176486297 : True := trivial
theorem law_holds.tw16888884763356830040 : True := trivial
theorem law_holds.tw1767730674963353768 : True := trivial
theorem law_holds.tw3572487005457819259 : True := trivial
theorem law_holds.tw15884304794012968992 : True := trivial
theorem law_holds.tw6345391036791879355 : True := trivial
theorem law_holds.tw15382015402350562565 : True := trivial
theorem law_holds.tw1803770708003208005 : True := trivial
theorem law_holds.tw15741379261994504178 : True := trivial
theorem law_holds.tw14844349234554566270 : True := trivial
theorem law_holds.tw11484002064277903863 : True := trivial
theorem law_holds.tw2017991025062827469 : True := trivial
theorem law_holds.tw6189876280036216102 : True := trivial
theorem law_holds.tw15522444059895599089 : True := trivial
theorem law_holds.tw5781380259314154910 : True := trivial
theorem law_holds.tw2782419253953178936 : True := trivial
theorem law_holds.tw13227533145525514938 : True := trivial
theorem law_holds.tw9442120237013122589 : True := trivial
theorem law_holds.tw1546341701258847243 : True := trivial
theorem law_holds.tw4084692197679721580 : True := trivial
theorem law_holds.tw12831907817818079685 : True := trivial
theorem law_holds.tw17713402740875732926 : True := trivial
theorem law_holds.tw3222016081226267511 : True := trivial
theorem law_holds.tw15802469936163623734 : True := trivial
theorem law_holds.tw10679931392274172632 : True := trivial
theorem law_holds.tw15544829507116839252 : True := trivial
theorem law_holds.tw4464252984393422682 : True := trivial
theorem law_holds.tw6667284449218939238 : True := trivial
theorem law_holds.tw14252543395802736299 : True := trivial
theorem law_holds.tw2029103588110406671 : True := trivial
theorem law_holds.tw10219052351128147325 : True := trivial
theorem law_holds.tw3187319136412158622 : True := trivial
theorem law_holds.tw850272041215511910 : True := trivial
theorem law_holds.tw6803784606104104915 : True := trivial
theorem law_holds.tw2695550118857162214 : True := trivial
theorem law_holds.tw2798143973674455058 : True := trivial
theorem law_holds.tw3528666605387839750 : True := trivial
theorem law_holds.tw7754230317916052659 : True := trivial
theorem law_holds.tw11017292853192552079 : True := trivial
theorem law_holds.tw14719725616965416121 : True := trivial
theorem law_holds.tw1499712698015984848 : True := trivial
theorem law_holds.tw8796305342591271336 : True := trivial
theorem law_holds.tw11586273756423631628 : True := trivial
theorem law_holds.tw3784698077442947878 : True := trivial
theorem law_holds.tw2823118279179183905 : True := trivial
theorem law_holds.tw6881874429007886204 : True := trivial
theorem law_holds.tw10726727282670432768 : True := trivial
theorem law_holds.tw10179629685781626857 : True := trivial
theorem law_holds.tw4439653461905209652 : True := trivial
theorem law_holds.tw13780023080261437657 : True := trivial
theorem law_holds.tw8159800149243062674 : True := trivial
theorem law_holds.tw5405950176245079350 : True := trivial
theorem law_holds.tw5718591165246717604 : True := trivial
theorem law_holds.tw17758146289354676595 : True := trivial
theorem law_holds.tw11946022803392826334 : True := trivial
theorem law_holds.tw1928719863018725356 : True := trivial
theorem law_holds.tw7767266014307106701 : True := trivial
theorem law_holds.tw4424757036780133433 : True := trivial
theorem law_holds.tw218528332313867021 : True := trivial
theorem law_holds.tw3682559726232862161 : True := trivial
theorem law_holds.tw9524400087533092186 : True := trivial
theorem law_holds.tw10027879121665395642 : True := trivial
theorem law_holds.tw8140785321658969949 : True := trivial
theorem law_holds.tw10360522573172651426 : True := trivial
theorem law_holds.tw9473953674100734253 : True := trivial
theorem law_holds.tw16701994192336326122 : True := trivial
theorem law_holds.tw770865349035796089 : True := trivial
theorem law_holds.tw5284116238247405735 : True := trivial
theorem law_holds.tw669063445224795674 : True := trivial
theorem law_holds.tw3158129796062787159 : True := trivial
theorem law_holds.tw8715444014776630742 : True := trivial
theorem law_holds.tw9069877914133315304 : True := trivial
theorem law_holds.tw9843604407834444796 : True := trivial
theorem law_holds.tw9432226000188453795 : True := trivial
theorem law_holds.tw3525511440505219793 : True := trivial
theorem law_holds.tw6401299144993235711 : True := trivial
theorem law_holds.tw7546098664982757538 : True := trivial
theorem law_holds.tw9897484093202304508 : True := trivial
theorem law_holds.tw7497986649931050792 : True := trivial
theorem law_holds.tw265737237460583615 : True := trivial
theorem law_holds.tw3361156913531085511 : True := trivial
theorem law_holds.tw17635003217326761883 : True := trivial
theorem law_holds.tw17923851452625207687 : True := trivial
theorem law_holds.tw2556814659519978841 : True := trivial
theorem law_holds.tw1514840783567845737 : True := trivial
theorem law_holds.tw8295506355032047333 : True := trivial
theorem law_holds.tw8157880013524578536 : True := trivial
theorem law_holds.tw9889521400790421688 : True := trivial
theorem law_holds.tw2096525686368166746 : True := trivial
theorem law_holds.tw8572072892066365893 : True := trivial
theorem law_holds.tw9734363202910664200 : True := trivial
theorem law_holds.tw8481075993509181622 : True := trivial
theorem law_holds.tw13190703287169160282 : True := trivial
theorem law_holds.tw7116731048869669803 : True := trivial
theorem law_holds.tw8191475993861738794 : True := trivial
theorem law_holds.tw12294157821550436875 : True := trivial
theorem law_holds.tw3692965976522172469 : True := trivial
theorem law_holds.tw14754953459478485650 : True := trivial
theorem law_holds.tw16590925698619810712 : True := trivial
theorem law_holds.tw5045712524691215523 : True := trivial
theorem law_holds.tw1377309892636839040 : True := trivial
theorem law_holds.tw12294597709558488554 : True := trivial
theorem law_holds.tw18261290160731607033 : True := trivial
theorem law_holds.tw2006301483956418059 : True := trivial
theorem law_holds.tw16493337721930434605 : True := trivial
theorem law_holds.tw16098122237329998606 : True := trivial
theorem law_holds.tw13956741780833797525 : True := trivial
theorem law_holds.tw14983226153234331074 : True := trivial
theorem law_holds.tw9483915327669328748 : True := trivial
theorem law_holds.tw1242418559920758562 : True := trivial
theorem law_holds.tw1997475870405608531 : True := trivial
theorem law_holds.tw8312275703017117140 : True := trivial
theorem law_holds.tw10566571302883470556 : True := trivial
theorem law_holds.tw17364227736987735495 : True := trivial
theorem law_holds.tw9184033795430018204 : True := trivial
theorem law_holds.tw7204803676362476211 : True := trivial
theorem law_holds.tw9529696498207198238 : True := trivial
theorem law_holds.tw15646520184464998804 : True := trivial
theorem law_holds.tw4370086069003782432 : True := trivial
theorem law_holds.tw13336368349410954346 : True := trivial
theorem law_holds.tw1778412455037948541 : True := trivial
theorem law_holds.tw2643271747718453845 : True := trivial
theorem law_holds.tw18430954121086234272 : True := trivial
theorem law_holds.tw17848598403364733487 : True := trivial
theorem law_holds.tw2389365564930886873 : True := trivial
theorem law_holds.tw8499850393483014974 : True := trivial
theorem law_holds.tw9887912731928775018 : True := trivial
theorem law_holds.tw7313538909654459803 : True := trivial
theorem law_holds.tw6592492639990696916 : True := trivial
theorem law_holds.tw3910120701321347557 : True := trivial
theorem law_holds.tw7695934317539461687 : True := trivial
theorem law_holds.tw9212889513913684515 : True := trivial
theorem law_holds.tw1414043511812021011 : True := trivial
theorem law_holds.tw17419225075052043924 : True := trivial
theorem law_holds.tw1031057903888850656 : True := trivial
theorem law_holds.tw5824406869818771718 : True := trivial
theorem law_holds.tw2517796932969339652 : True := trivial
theorem law_holds.tw16871385213344756426 : True := trivial
theorem law_holds.tw18254337876149969668 : True := trivial
theorem law_holds.tw13528501647155650410 : True := trivial
theorem law_holds.tw5672799075271041237 : True := trivial
theorem law_holds.tw13959763950245974101 : True := trivial
theorem law_holds.tw465778155523134757 : True := trivial
theorem law_holds.tw2897034200560062308 : True := trivial
theorem law_holds.tw6723812968561706957 : True := trivial
theorem law_holds.tw7408472829698581751 : True := trivial
theorem law_holds.tw16461882675039125421 : True := trivial
theorem law_holds.tw6727219029552735585 : True := trivial
theorem law_holds.tw10024239376800412576 : True := trivial
theorem law_holds.tw11076989893796303656 : True := trivial
theorem law_holds.tw13429453918920967058 : True := trivial
theorem law_holds.tw5587736956042788999 : True := trivial
theorem law_holds.tw69833769963255967 : True := trivial
theorem law_holds.tw6177970194926469781 : True := trivial
theorem law_holds.tw15293083901398250104 : True := trivial
theorem law_holds.tw9306350457970066959 : True := trivial
theorem law_holds.tw7304591109411159013 : True := trivial
theorem law_holds.tw7705907089059582203 : True := trivial
theorem law_holds.tw6168114395901332020 : True := trivial
theorem law_holds.tw9782971633488464159 : True := trivial
theorem law_holds.tw12687621791434340054 : True := trivial
theorem law_holds.tw12115171985352901274 : True := trivial
theorem law_holds.tw1317935238547563538 : True := trivial
theorem law_holds.tw13097044212144736960 : True := trivial
theorem law_holds.tw14331520008513703237 : True := trivial
theorem law_holds.tw10188763426450519768 : True := trivial
theorem law_holds.tw808278469055374699 : True := trivial
theorem law_holds.tw10886391378514542500 : True := trivial
theorem law_holds.tw15883345262158282383 : True := trivial
theorem law_holds.tw4080157896497106081 : True := trivial
theorem law_holds.tw2470889107711209942 : True := trivial
theorem law_holds.tw10516828495840041881 : True := trivial
theorem law_holds.tw5898729028444588960 : True := trivial
theorem law_holds.tw16895252004520475267 : True := trivial
theorem law_holds.tw13280740594461564331 : True := trivial
theorem law_holds.tw2303879751551577860 : True := trivial
theorem law_holds.tw8137031500313473552 : True := trivial
theorem law_holds.tw10283916278828761575 : True := trivial
theorem law_holds.tw12780804625047726367 : True := trivial
theorem law_holds.tw13953844522926457337 : True := trivial
theorem law_holds.tw15617896438947887921 : True := trivial
theorem law_holds.tw11303081109005220762 : True := trivial
theorem law_holds.tw2564268380859428801 : True := trivial
theorem law_holds.tw3438298445031660282 : True := trivial
theorem law_holds.tw5926295103528105954 : True := trivial
theorem law_holds.tw498061464947678834 : True := trivial
theorem law_holds.tw17309000430359075326 : True := trivial
theorem law_holds.tw576407869801174206 : True := trivial
theorem law_holds.tw12731736397290755891 : True := trivial
theorem law_holds.tw841179935631392477 : True := trivial
theorem law_holds.tw14390095281932903014 : True := trivial
theorem law_holds.tw13092103797297032270 : True := trivial
theorem law_holds.tw1247253217256132012 : True := trivial
theorem law_holds.tw10368410895845634921 : True := trivial
theorem law_holds.tw16457280410452015341 : True := trivial
theorem law_holds.tw9682718004065560343 : True := trivial
theorem law_holds.tw18388893480867403737 : True := trivial
theorem law_holds.tw11532970265236058100 : True := trivial
theorem law_holds.tw2255109623926472175 : True := trivial
theorem law_holds.tw3532448111676096983 : True := trivial
theorem law_holds.tw17884844454425935293 : True := trivial
theorem law_holds.tw12296726922439171297 : True := trivial
theorem law_holds.tw2558664710541493025 : True := trivial
theorem law_holds.tw15711721202313437401 : True := trivial
theorem law_holds.tw3674665740742831893 : True := trivial
theorem law_holds.tw8427013159535471806 : True := trivial
theorem law_holds.tw12795448055554024986 : True := trivial
theorem law_holds.tw5605356248273646047 : True := trivial
theorem law_holds.tw17274716441693411508 : True := trivial
theorem law_holds.tw6890789416708739275 : True := trivial
theorem law_holds.tw12982237838974322688 : True := trivial
theorem law_holds.tw11795792742502079742 : True := trivial
theorem law_holds.tw2865737869514987218 : True := trivial
theorem law_holds.tw3127913417769977931 : True := trivial
theorem law_holds.tw8083882435365906211 : True := trivial
theorem law_holds.tw8720880381367431298 : True := trivial
theorem law_holds.tw3850404396616230974 : True := trivial
theorem law_holds.tw8045378594462670225 : True := trivial
theorem law_holds.tw10189704592693192966 : True := trivial
theorem law_holds.tw4581845663705801772 : True := trivial
theorem law_holds.tw6119071299663865417 : True := trivial
theorem law_holds.tw3602377517896009648 : True := trivial
theorem law_holds.tw9992725586745946429 : True := trivial
theorem law_holds.tw11129157725520112330 : True := trivial
theorem law_holds.tw1762888911704233025 : True := trivial
theorem law_holds.tw18026530572120702767 : True := trivial
theorem law_holds.tw15483129889696659574 : True := trivial
theorem law_holds.tw2269544990204364226 : True := trivial
theorem law_holds.tw2168529811784733145 : True := trivial
theorem law_holds.tw2503670479209048990 : True := trivial
theorem law_holds.tw15305978602068356694 : True := trivial
theorem law_holds.tw2289978600566156860 : True := trivial
theorem law_holds.tw17311987242748728955 : True := trivial
theorem law_holds.tw4913491355128607118 : True := trivial
theorem law_holds.tw15202863084288179589 : True := trivial
theorem law_holds.tw3956099054510807996 : True := trivial
theorem law_holds.tw6347680836309536272 : True := trivial
theorem law_holds.tw3441294181031003726 : True := trivial
theorem law_holds.tw972601921857779769 : True := trivial
theorem law_holds.tw15341342317828512493 : True := trivial
theorem law_holds.tw17470365217354309832 : True := trivial
theorem law_holds.tw926570990666696690 : True := trivial
theorem law_holds.tw18135211599370774712 : True := trivial
theorem law_holds.tw13068417504975948891 : True := trivial
theorem law_holds.tw14358080080312658767 : True := trivial
theorem law_holds.tw519298541982818421 : True := trivial
theorem law_holds.tw4991859449750346478 : True := trivial
theorem law_holds.tw15014403891855920072 : True := trivial
theorem law_holds.tw784011647948385275 : True := trivial
theorem law_holds.tw8534950812830455928 : True := trivial
theorem law_holds.tw9502071092897418529 : True := trivial
theorem law_holds.tw16098328659105767808 : True := trivial
theorem law_holds.tw2644812543463305238 : True := trivial
theorem law_holds.tw9255152265573255198 : True := trivial
theorem law_holds.tw18234560199702728603 : True := trivial
theorem law_holds.tw6553333263825352884 : True := trivial
theorem law_holds.tw8872494088307768188 : True := trivial
theorem law_holds.tw123295346585929383 : True := trivial
theorem law_holds.tw7067974818453428095 : True := trivial
theorem law_holds.tw8984712037535005518 : True := trivial
theorem law_holds.tw11201986876333184995 : True := trivial
theorem law_holds.tw18004377390359884712 : True := trivial
theorem law_holds.tw3809755536050820187 : True := trivial
theorem law_holds.tw2414130084998747865 : True := trivial
theorem law_holds.tw12668044768207566790 : True := trivial
theorem law_holds.tw835187532416916751 : True := trivial
theorem law_holds.tw17089861810051081540 : True := trivial
theorem law_holds.tw8858119530156839631 : True := trivial
theorem law_holds.tw13709617746848070560 : True := trivial
theorem law_holds.tw1670043908289496885 : True := trivial
theorem law_holds.tw4741859662064258567 : True := trivial
theorem law_holds.tw8909828626151137519 : True := trivial
theorem law_holds.tw1027206079918495175 : True := trivial
theorem law_holds.tw14677013365202126530 : True := trivial
theorem law_holds.tw7696488724909661519 : True := trivial
theorem law_holds.tw12147325966686110327 : True := trivial
theorem law_holds.tw6325554462778586078 : True := trivial
theorem law_holds.tw15973758155804705043 : True := trivial
theorem law_holds.tw12108977868540685583 : True := trivial
theorem law_holds.tw16482278838752557086 : True := trivial
theorem law_holds.tw4047857117431869575 : True := trivial
theorem law_holds.tw11666318101497114028 : True := trivial
theorem law_holds.tw41732636909640268 : True := trivial
theorem law_holds.tw13342518741750886279 : True := trivial
theorem law_holds.tw5112083995522966620 : True := trivial
theorem law_holds.tw2175471002772951711 : True := trivial
theorem law_holds.tw13848119269249539950 : True := trivial
theorem law_holds.tw10362271348294423435 : True := trivial
theorem law_holds.tw13504682048671500267 : True := trivial
theorem law_holds.tw6925759287387000477 : True := trivial
theorem law_holds.tw5914870393513715829 : True := trivial
theorem law_holds.tw860077500063870494 : True := trivial
theorem law_holds.tw5907203647135998699 : True := trivial
theorem law_holds.tw18254395454411644717 : True := trivial
theorem law_holds.tw550416813572682631 : True := trivial
theorem law_holds.tw3416923247095428876 : True := trivial
theorem law_holds.tw10028117763298573888 : True := trivial
theorem law_holds.tw10405103093626408476 : True := trivial
theorem law_holds.tw10371022188087798493 : True := trivial
theorem law_holds.tw16612359704951912572 : True := trivial
theorem law_holds.tw15202307301556495182 : True := trivial
theorem law_holds.tw7169296243666066974 : True := trivial
theorem law_holds.tw4995542688137877417 : True := trivial
theorem law_holds.tw4517222822008671029 : True := trivial
theorem law_holds.tw6856271012784772064 : True := trivial
theorem law_holds.tw6861490101519172755 : True := trivial
theorem law_holds.tw7345768897557615242 : True := trivial
theorem law_holds.tw1973129929022764952 : True := trivial
theorem law_holds.tw2211468639325271704 : True := trivial
theorem law_holds.tw8377264794811688176 : True := trivial
theorem law_holds.tw11712238047454039950 : True := trivial
theorem law_holds.tw9168033884955339765 : True := trivial
theorem law_holds.tw11721147071786614939 : True := trivial
theorem law_holds.tw6882020374766023752 : True := trivial
theorem law_holds.tw15644819842384902770 : True := trivial
theorem law_holds.tw11881114122080957857 : True := trivial
theorem law_holds.tw4886312948824227682 : True := trivial
theorem law_holds.tw16873799427995575018 : True := trivial
theorem law_holds.tw9770219792253218338 : True := trivial
theorem law_holds.tw16765433158599729185 : True := trivial
theorem law_holds.tw17545576798567701639 : True := trivial
theorem law_holds.tw2016121425191149895 : True := trivial
theorem law_holds.tw5123404419316150 : True := trivial
theorem law_holds.tw11100686419730198450 : True := trivial
theorem law_holds.tw15533563059666576871 : True := trivial
theorem law_holds.tw9658750610502535773 : True := trivial
theorem law_holds.tw5020664805780731950 : True := trivial
theorem law_holds.tw14822640431511872941 : True := trivial
theorem law_holds.tw521618093562937032 : True := trivial
theorem law_holds.tw3497416489672200475 : True := trivial
theorem law_holds.tw8970147916757833333 : True := trivial
theorem law_holds.tw129971469095190092 : True := trivial
theorem law_holds.tw16174998905534648557 : True := trivial
theorem law_holds.tw4010602895031118862 : True := trivial
theorem law_holds.tw3487968232213910406 : True := trivial
theorem law_holds.tw3381667417286267614 : True := trivial
theorem law_holds.tw11714151634956498000 : True := trivial
theorem law_holds.tw15527639110640922598 : True := trivial
theorem law_holds.tw9746213474893016414 : True := trivial
theorem law_holds.tw5052586510891348487 : True := trivial
theorem law_holds.tw3663427449441712954 : True := trivial
theorem law_holds.tw12634321019024901981 : True := trivial
theorem law_holds.tw7407239408455114201 : True := trivial
theorem law_holds.tw11182679623053108816 : True := trivial
theorem law_holds.tw3794388667547904515 : True := trivial
theorem law_holds.tw4820369329881294799 : True := trivial
theorem law_holds.tw5289087582807010729 : True := trivial
theorem law_holds.tw12626328134170644701 : True := trivial
theorem law_holds.tw9525127294725463027 : True := trivial
theorem law_holds.tw6377815916425241027 : True := trivial
theorem law_holds.tw1689763614830377041 : True := trivial
theorem law_holds.tw135376982182812190 : True := trivial
theorem law_holds.tw6980985167982155949 : True := trivial
theorem law_holds.tw10786798759134214714 : True := trivial
theorem law_holds.tw981846192996546977 : True := trivial
theorem law_holds.tw16074064945343616743 : True := trivial
theorem law_holds.tw11544315989524547432 : True := trivial
theorem law_holds.tw1713144814433471595 : True := trivial
theorem law_holds.tw7954183362391743935 : True := trivial
theorem law_holds.tw15623931887893595886 : True := trivial
theorem law_holds.tw1035469204868569938 : True := trivial
theorem law_holds.tw15567558954438479688 : True := trivial
theorem law_holds.tw1303389685018741030 : True := trivial
theorem law_holds.tw10609929442622069884 : True := trivial
theorem law_holds.tw1784627337472249616 : True := trivial
theorem law_holds.tw11576763624814078588 : True := trivial
theorem law_holds.tw6900053685262515769 : True := trivial
theorem law_holds.tw14988988175077273356 : True := trivial
theorem law_holds.tw11781800970755023335 : True := trivial
theorem law_holds.tw5117662029339320154 : True := trivial
theorem law_holds.tw1786514562438141433 : True := trivial
theorem law_holds.tw6991859651787742975 : True := trivial
theorem law_holds.tw17180001009569633970 : True := trivial
theorem law_holds.tw2578278018795888234 : True := trivial
theorem law_holds.tw17580165497215679439 : True := trivial
theorem law_holds.tw3049941959672503198 : True := trivial
theorem law_holds.tw16643359273071845452 : True := trivial
theorem law_holds.tw13402424001964919149 : True := trivial
theorem law_holds.tw5274592661964301406 : True := trivial
theorem law_holds.tw12303009252429188658 : True := trivial
theorem law_holds.tw17348551593414719351 : True := trivial
theorem law_holds.tw14499810825090155391 : True := trivial
theorem law_holds.tw4524032621918665186 : True := trivial
theorem law_holds.tw8413839820570837369 : True := trivial
theorem law_holds.tw16192464803593610453 : True := trivial
theorem law_holds.tw2054456864356577309 : True := trivial
theorem law_holds.tw15325848393653090309 : True := trivial
theorem law_holds.tw5087963091746180759 : True := trivial
theorem law_holds.tw12776737443520724447 : True := trivial
theorem law_holds.tw5770249724584273481 : True := trivial
theorem law_holds.tw8386679336120195906 : True := trivial
theorem law_holds.tw2871364008783790576 : True := trivial
theorem law_holds.tw217386770830766740 : True := trivial
theorem law_holds.tw5647190250986860303 : True := trivial
theorem law_holds.tw12275847060699157868 : True := trivial
theorem law_holds.tw12800644894191811977 : True := trivial
theorem law_holds.tw6116483010803129801 : True := trivial
theorem law_holds.tw17078278762921784054 : True := trivial
theorem law_holds.tw10301956948240465243 : True := trivial
theorem law_holds.tw8447111591413142418 : True := trivial
theorem law_holds.tw14381716576446811386 : True := trivial
theorem law_holds.tw7123599913665508030 : True := trivial
theorem law_holds.tw8974269430029374478 : True := trivial
theorem law_holds.tw6159533029260741167 : True := trivial
theorem law_holds.tw18394933952373947069 : True := trivial
theorem law_holds.tw15352839923633478061 : True := trivial
theorem law_holds.tw7983211939772527470 : True := trivial
theorem law_holds.tw13257055565626018733 : True := trivial
theorem law_holds.tw4492043994082249198 : True := trivial
theorem law_holds.tw4433843952089619705 : True := trivial
theorem law_holds.tw8226277913771197264 : True := trivial
theorem law_holds.tw10876394233666535175 : True := trivial
theorem law_holds.tw10222300733896627045 : True := trivial
theorem law_holds.tw4643041051132140158 : True := trivial
theorem law_holds.tw17830944117370523080 : True := trivial
theorem law_holds.tw7987243290614416497 : True := trivial
theorem law_holds.tw15344568305301671732 : True := trivial
theorem law_holds.tw11764581739189218997 : True := trivial
theorem law_holds.tw1724926542741425601 : True := trivial
theorem law_holds.tw11556845855556705167 : True := trivial
theorem law_holds.tw3390839446522356110 : True := trivial
theorem law_holds.tw15320506598460614908 : True := trivial
theorem law_holds.tw13087128984098923117 : True := trivial
theorem law_holds.tw15031514592837009168 : True := trivial
theorem law_holds.tw545109181885906688 : True := trivial
theorem law_holds.tw9260914124254427926 : True := trivial
theorem law_holds.tw6603102845771900818 : True := trivial
theorem law_holds.tw1929443778124869092 : True := trivial
theorem law_holds.tw6580623548314892615 : True := trivial
theorem law_holds.tw11966672015165255308 : True := trivial
theorem law_holds.tw6057113334529873379 : True := trivial
theorem law_holds.tw8685087848568736164 : True := trivial
theorem law_holds.tw13642005409729077643 : True := trivial
theorem law_holds.tw2907507879108658156 : True := trivial
theorem law_holds.tw15985639844270965063 : True := trivial
theorem law_holds.tw3763229848946978566 : True := trivial
theorem law_holds.tw12423290165067640415 : True := trivial
theorem law_holds.tw415365407113419659 : True := trivial
theorem law_holds.tw14326059299131336239 : True := trivial
theorem law_holds.tw12614398338856665164 : True := trivial
theorem law_holds.tw6911747868599837429 : True := trivial
theorem law_holds.tw18051328159682125866 : True := trivial
theorem law_holds.tw12481875629721207810 : True := trivial
theorem law_holds.tw6860709855171689206 : True := trivial
theorem law_holds.tw15008335178301276945 : True := trivial
theorem law_holds.tw8069529665006113395 : True := trivial
theorem law_holds.tw8283681822388582728 : True := trivial
theorem law_holds.tw16190568399584723965 : True := trivial
theorem law_holds.tw693293372831425869 : True := trivial
theorem law_holds.tw15006436103509636135 : True := trivial
theorem law_holds.tw13800329570527188203 : True := trivial
theorem law_holds.tw15873654808861938513 : True := trivial
theorem law_holds.tw16264117789154854960 : True := trivial
theorem law_holds.tw12503156628232749375 : True := trivial
theorem law_holds.tw3438159455049519851 : True := trivial
theorem law_holds.tw18165013545707147870 : True := trivial
theorem law_holds.tw4012412122566942357 : True := trivial
theorem law_holds.tw3253568177066640346 : True := trivial
theorem law_holds.tw1117575151148589468 : True := trivial
theorem law_holds.tw13281950902743806629 : True := trivial
theorem law_holds.tw7480714314260584917 : True := trivial
theorem law_holds.tw2075624079617657780 : True := trivial
theorem law_holds.tw1681173693875575501 : True := trivial
theorem law_holds.tw9207643191828677137 : True := trivial
theorem law_holds.tw5468059909767442100 : True := trivial
theorem law_holds.tw4211113817173803656 : True := trivial
theorem law_holds.tw10517181812226103804 : True := trivial
theorem law_holds.tw15049334964525308263 : True := trivial
theorem law_holds.tw6747315666322679634 : True := trivial
theorem law_holds.tw16731865509343475380 : True := trivial
theorem law_holds.tw6381524096760519305 : True := trivial
theorem law_holds.tw17903290773200042623 : True := trivial
theorem law_holds.tw7566432030715092817 : True := trivial
theorem law_holds.tw14967481817302583507 : True := trivial
theorem law_holds.tw14688257501491213770 : True := trivial
theorem law_holds.tw471691501087554491 : True := trivial
theorem law_holds.tw6485157915934633976 : True := trivial
theorem law_holds.tw12850535167719870617 : True := trivial
theorem law_holds.tw11924911360389889469 : True := trivial
theorem law_holds.tw11126432536435168541 : True := trivial
theorem law_holds.tw9950801491294251245 : True := trivial
theorem law_holds.tw5542243279508502960 : True := trivial
theorem law_holds.tw1815068451868292171 : True := trivial
theorem law_holds.tw2661426283462663331 : True := trivial
theorem law_holds.tw10966922599951484296 : True := trivial
theorem law_holds.tw17155369625386149278 : True := trivial
theorem law_holds.tw14872900085578418628 : True := trivial
theorem law_holds.tw179590077315354965 : True := trivial
theorem law_holds.tw11223184984439025696 : True := trivial
theorem law_holds.tw13677857801504540592 : True := trivial
theorem law_holds.tw6705145993079459608 : True := trivial
theorem law_holds.tw2136269947727277649 : True := trivial
theorem law_holds.tw18253983147426064995 : True := trivial
theorem law_holds.tw11253982270263490198 : True := trivial
theorem law_holds.tw13287204720269558064 : True := trivial
theorem law_holds.tw4136765680202085937 : True := trivial
theorem law_holds.tw3035144380315620824 : True := trivial
theorem law_holds.tw3904345055887950832 : True := trivial
theorem law_holds.tw13024233884710821808 : True := trivial
theorem law_holds.tw9629251133229016361 : True := trivial
theorem law_holds.tw8398172748654082301 : True := trivial
theorem law_holds.tw12395405093167943222 : True := trivial
theorem law_holds.tw6948224671027582040 : True := trivial
theorem law_holds.tw7743764779111840046 : True := trivial
theorem law_holds.tw9774066388039896306 : True := trivial
theorem law_holds.tw3959601488294255719 : True := trivial
theorem law_holds.tw17255088995462705879 : True := trivial
theorem law_holds.tw16245577235439221107 : True := trivial
theorem law_holds.tw2731376850318366449 : True := trivial
theorem law_holds.tw18153520721480276881 : True := trivial
theorem law_holds.tw252747968280191792 : True := trivial
theorem law_holds.tw2090888555730037645 : True := trivial
theorem law_holds.tw8666519363043736892 : True := trivial
theorem law_holds.tw745255978533919091 : True := trivial
theorem law_holds.tw7748021459863145133 : True := trivial
theorem law_holds.tw6719018230134327050 : True := trivial
theorem law_holds.tw1116448407281170742 : True := trivial
theorem law_holds.tw8297313697389066934 : True := trivial
theorem law_holds.tw9494663832590456537 : True := trivial
theorem law_holds.tw12949845418750544790 : True := trivial
theorem law_holds.tw10242277825702978295 : True := trivial
theorem law_holds.tw10951877792365427690 : True := trivial
theorem law_holds.tw9989359697036934923 : True := trivial
theorem law_holds.tw10803361673654935901 : True := trivial
theorem law_holds.tw15778187320301009095 : True := trivial
theorem law_holds.tw2325693721150917532 : True := trivial
theorem law_holds.tw2271277622628899897 : True := trivial
theorem law_holds.tw8099904116099004137 : True := trivial
theorem law_holds.tw10870653069706475693 : True := trivial
theorem law_holds.tw10690591221887355590 : True := trivial
theorem law_holds.tw2643161274291862537 : True := trivial
theorem law_holds.tw3426384778480675251 : True := trivial
theorem law_holds.tw3307954989432871184 : True := trivial
theorem law_holds.tw8514742172934523775 : True := trivial
theorem law_holds.tw9161201516280946379 : True := trivial
theorem law_holds.tw14545874151571354728 : True := trivial
theorem law_holds.tw7283070072754485986 : True := trivial
theorem law_holds.tw16106779387088534511 : True := trivial
theorem law_holds.tw13431030151845061361 : True := trivial
theorem law_holds.tw3033269912633744064 : True := trivial
theorem law_holds.tw2401843486660128364 : True := trivial
theorem law_holds.tw6317479115527610633 : True := trivial
theorem law_holds.tw3624585105083129037 : True := trivial
theorem law_holds.tw8712014163911447464 : True := trivial
theorem law_holds.tw602461330855297101 : True := trivial
theorem law_holds.tw4842803820930364682 : True := trivial
theorem law_holds.tw11426015686315989412 : True := trivial
theorem law_holds.tw4614512636035447770 : True := trivial
theorem law_holds.tw11677100312832694166 : True := trivial
theorem law_holds.tw9871626496009991038 : True := trivial
theorem law_holds.tw12218498018843733332 : True := trivial
theorem law_holds.tw8585773674032094923 : True := trivial
theorem law_holds.tw17942709131360195518 : True := trivial
theorem law_holds.tw223059019891838383 : True := trivial
theorem law_holds.tw3896150654470677357 : True := trivial
theorem law_holds.tw16827908438139842105 : True := trivial
theorem law_holds.tw17945400426158229696 : True := trivial
theorem law_holds.tw7019463264422422977 : True := trivial
theorem law_holds.tw12622292602297523153 : True := trivial
theorem law_holds.tw462603977267732627 : True := trivial
theorem law_holds.tw15726739188670627701 : True := trivial
theorem law_holds.tw4114491029794296638 : True := trivial
theorem law_holds.tw13397297893571687751 : True := trivial
theorem law_holds.tw6492775229715985030 : True := trivial
theorem law_holds.tw18207237522527388385 : True := trivial
theorem law_holds.tw3366817510852727610 : True := trivial
theorem law_holds.tw15088961453551581880 : True := trivial
theorem law_holds.tw660876830718362288 : True := trivial
theorem law_holds.tw9849722394096787677 : True := trivial
theorem law_holds.tw12149405283708829123 : True := trivial
theorem law_holds.tw5753924415299393750 : True := trivial
theorem law_holds.tw3005452535816212104 : True := trivial
theorem law_holds.tw1914425252493584057 : True := trivial
theorem law_holds.tw9634471323475708679 : True := trivial
theorem law_holds.tw17253691774821329096 : True := trivial
theorem law_holds.tw4593294709026258786 : True := trivial
theorem law_holds.tw8417186165934385351 : True := trivial
theorem law_holds.tw1378268572249521416 : True := trivial
theorem law_holds.tw2478669980181748699 : True := trivial
theorem law_holds.tw16591509995828177608 : True := trivial
theorem law_holds.tw7630923327383168834 : True := trivial
theorem law_holds.tw16760957895259694429 : True := trivial
theorem law_holds.tw17744747089408723468 : True := trivial
theorem law_holds.tw6837162412863275959 : True := trivial
theorem law_holds.tw9779807473162285230 : True := trivial
theorem law_holds.tw14746732674962391887 : True := trivial
theorem law_holds.tw4916342969005030805 : True := trivial
theorem law_holds.tw13907478101703683472 : True := trivial
theorem law_holds.tw3916298042263642725 : True := trivial
theorem law_holds.tw4575823598074768960 : True := trivial
theorem law_holds.tw3882201998751590657 : True := trivial
theorem law_holds.tw11823568539219059922 : True := trivial
theorem law_holds.tw14875730727996063832 : True := trivial
theorem law_holds.tw11599213532126039444 : True := trivial
theorem law_holds.tw3136910860242942599 : True := trivial
theorem law_holds.tw9009705080361974123 : True := trivial
theorem law_holds.tw1021771657429519781 : True := trivial
theorem law_holds.tw10009549156579704288 : True := trivial
theorem law_holds.tw2829063650774624953 : True := trivial
theorem law_holds.tw13232312132910849962 : True := trivial
theorem law_holds.tw13116430531795314387 : True := trivial
theorem law_holds.tw3850334171643177529 : True := trivial
theorem law_holds.tw3110860835449505704 : True := trivial
theorem law_holds.tw18155623678392573649 : True := trivial
theorem law_holds.tw17409312009897255430 : True := trivial
theorem law_holds.tw12889673554181485818 : True := trivial
theorem law_holds.tw15470072684735142199 : True := trivial
theorem law_holds.tw8243509385869085470 : True := trivial
theorem law_holds.tw10311235223148433555 : True := trivial
theorem law_holds.tw6346621912233149993 : True := trivial
theorem law_holds.tw16063024586401919876 : True := trivial
theorem law_holds.tw416829872822806524 : True := trivial
theorem law_holds.tw8982592368679156308 : True := trivial
theorem law_holds.tw18042531781279621341 : True := trivial
theorem law_holds.tw7556614973213307419 : True := trivial
theorem law_holds.tw18309190362041527269 : True := trivial
theorem law_holds.tw2102315897755806987 : True := trivial
theorem law_holds.tw6746360682218282392 : True := trivial
theorem law_holds.tw3852827713774964812 : True := trivial
theorem law_holds.tw1285599515219305098 : True := trivial
theorem law_holds.tw3253820488102484341 : True := trivial
theorem law_holds.tw9290190842861060508 : True := trivial
theorem law_holds.tw723553956927101924 : True := trivial
theorem law_holds.tw3783255490424437341 : True := trivial
theorem law_holds.tw6736380345627730017 : True := trivial
theorem law_holds.tw10660274270002163016 : True := trivial
theorem law_holds.tw8829074647290719032 : True := trivial
theorem law_holds.tw4818577856007422655 : True := trivial
theorem law_holds.tw3742325753681652743 : True := trivial
theorem law_holds.tw4240595673693962030 : True := trivial
theorem law_holds.tw17389434848343332794 : True := trivial
theorem law_holds.tw14828999820898988419 : True := trivial
theorem law_holds.tw10767655046202684341 : True := trivial
theorem law_holds.tw732671015094016272 : True := trivial
theorem law_holds.tw5791418645094131800 : True := trivial
theorem law_holds.tw3099879526859125934 : True := trivial
theorem law_holds.tw2960636616782300143 : True := trivial
theorem law_holds.tw9032088933897422861 : True := trivial
theorem law_holds.tw13840902789983287329 : True := trivial
theorem law_holds.tw10725132931349513577 : True := trivial
theorem law_holds.tw16165715940066559518 : True := trivial
theorem law_holds.tw17562025525947693838 : True := trivial
theorem law_holds.tw4329158554759489670 : True := trivial
theorem law_holds.tw4037582482628031876 : True := trivial
theorem law_holds.tw15242022910975006910 : True := trivial
theorem law_holds.tw11803560295506267724 : True := trivial
theorem law_holds.tw17031892589824847239 : True := trivial
theorem law_holds.tw5633279544325282263 : True := trivial
theorem law_holds.tw8135941239458229972 : True := trivial
theorem law_holds.tw676263390381983339 : True := trivial
theorem law_holds.tw5364902710198789758 : True := trivial
theorem law_holds.tw12153922251378674784 : True := trivial
theorem law_holds.tw12456547296908542839 : True := trivial
theorem law_holds.tw8187936588198008344 : True := trivial
theorem law_holds.tw15414050262337425861 : True := trivial
theorem law_holds.tw5981114437932730796 : True := trivial
theorem law_holds.tw12223724995276690173 : True := trivial
theorem law_holds.tw8790382262760724670 : True := trivial
theorem law_holds.tw3756957479349018193 : True := trivial
theorem law_holds.tw17775403365899300489 : True := trivial
theorem law_holds.tw4992725456586698614 : True := trivial
theorem law_holds.tw631266038723830076 : True := trivial
theorem law_holds.tw9013377322688217293 : True := trivial
theorem law_holds.tw7484302960587174374 : True := trivial
theorem law_holds.tw18007842001419259668 : True := trivial
theorem law_holds.tw10288635621117254392 : True := trivial
theorem law_holds.tw7185456241796803578 : True := trivial
theorem law_holds.tw1096898596823417342 : True := trivial
theorem law_holds.tw3345943897349945916 : True := trivial
theorem law_holds.tw1710076424337546998 : True := trivial
theorem law_holds.tw16914220770136414715 : True := trivial
theorem law_holds.tw7052821283958023361 : True := trivial
theorem law_holds.tw14637292938222569738 : True := trivial
theorem law_holds.tw4538803929270698141 : True := trivial
theorem law_holds.tw9669672807639750606 : True := trivial
theorem law_holds.tw14489315793263303861 : True := trivial
theorem law_holds.tw15352218221683021774 : True := trivial
theorem law_holds.tw18313054686088952622 : True := trivial
theorem law_holds.tw17458534234597298029 : True := trivial
theorem law_holds.tw16170062445108390699 : True := trivial
theorem law_holds.tw5765542928187402639 : True := trivial
theorem law_holds.tw16771549258648962210 : True := trivial
theorem law_holds.tw270554467692517631 : True := trivial
theorem law_holds.tw6960227901761818539 : True := trivial
theorem law_holds.tw17792525830624384078 : True := trivial
theorem law_holds.tw14596297492920191028 : True := trivial
theorem law_holds.tw11098625913536864229 : True := trivial
theorem law_holds.tw14354538779393863138 : True := trivial
theorem law_holds.tw5222685764011923507 : True := trivial
theorem law_holds.tw12210932052861102225 : True := trivial
theorem law_holds.tw12045387857630236399 : True := trivial
theorem law_holds.tw14082216999693957109 : True := trivial
theorem law_holds.tw907578622648922086 : True := trivial
theorem law_holds.tw10024915671413155879 : True := trivial
theorem law_holds.tw8939018918628865471 : True := trivial
theorem law_holds.tw1335265377702380343 : True := trivial
theorem law_holds.tw1232645469590886286 : True := trivial
theorem law_holds.tw8041847919771144911 : True := trivial
theorem law_holds.tw4797790103318477656 : True := trivial
theorem law_holds.tw59864651932915081 : True := trivial
theorem law_holds.tw9187647767651647856 : True := trivial
theorem law_holds.tw16066104587097768911 : True := trivial
theorem law_holds.tw7221428835167493151 : True := trivial
theorem law_holds.tw7511139251322460048 : True := trivial
theorem law_holds.tw145366339536180231 : True := trivial
theorem law_holds.tw12253411696296436870 : True := trivial
theorem law_holds.tw8984152853971343422 : True := trivial
theorem law_holds.tw16708887144172644987 : True := trivial
theorem law_holds.tw2851267720448770887 : True := trivial
theorem law_holds.tw17865009358878524859 : True := trivial
theorem law_holds.tw3920392572372402345 : True := trivial
theorem law_holds.tw16606368319796509530 : True := trivial
theorem law_holds.tw14377833709258309704 : True := trivial
theorem law_holds.tw9030029362784504949 : True := trivial
theorem law_holds.tw9054384006715261796 : True := trivial
theorem law_holds.tw14199385797764061990 : True := trivial
theorem law_holds.tw2210835177313872025 : True := trivial
theorem law_holds.tw12342728606916771844 : True := trivial
theorem law_holds.tw16720094985154256693 : True := trivial
theorem law_holds.tw9288214680346807717 : True := trivial
theorem law_holds.tw1685627985566243432 : True := trivial
theorem law_holds.tw228058311090241170 : True := trivial
theorem law_holds.tw5725672013846136890 : True := trivial
theorem law_holds.tw16184722932577297118 : True := trivial
theorem law_holds.tw3955097671198598788 : True := trivial
theorem law_holds.tw18174757765527757658 : True := trivial
theorem law_holds.tw1385162719727133579 : True := trivial
theorem law_holds.tw17776234225285570622 : True := trivial
theorem law_holds.tw1995169965324791860 : True := trivial
theorem law_holds.tw15561649445283561610 : True := trivial
theorem law_holds.tw2382714987290314120 : True := trivial
theorem law_holds.tw15694993059591697976 : True := trivial
theorem law_holds.tw2267570414399663512 : True := trivial
theorem law_holds.tw1956609002073499237 : True := trivial
theorem law_holds.tw12246973334233011070 : True := trivial
theorem law_holds.tw7495221243884187115 : True := trivial
theorem law_holds.tw10296202853966499060 : True := trivial
theorem law_holds.tw15616788800653401546 : True := trivial
theorem law_holds.tw15825954081357454955 : True := trivial
theorem law_holds.tw13405347812287781512 : True := trivial
theorem law_holds.tw8652346329174877282 : True := trivial
theorem law_holds.tw13882729330811710610 : True := trivial
theorem law_holds.tw17352347295132562470 : True := trivial
theorem law_holds.tw811035903429128223 : True := trivial
theorem law_holds.tw446147798399107303 : True := trivial
theorem law_holds.tw3551631022101015893 : True := trivial
theorem law_holds.tw9402628398232685979 : True := trivial
theorem law_holds.tw1193751542720294520 : True := trivial
theorem law_holds.tw2152083551845799040 : True := trivial
theorem law_holds.tw16384666884567717180 : True := trivial
theorem law_holds.tw11347954631545130290 : True := trivial
theorem law_holds.tw6833386782581465115 : True := trivial
theorem law_holds.tw17237755526102222789 : True := trivial
theorem law_holds.tw10929289806422889615 : True := trivial
theorem law_holds.tw1046446015878126456 : True := trivial
theorem law_holds.tw7213053830331083432 : True := trivial
theorem law_holds.tw13476665736869980405 : True := trivial
theorem law_holds.tw8989625286065859495 : True := trivial
theorem law_holds.tw7775064044895347852 : True := trivial
theorem law_holds.tw14991590004735058009 : True := trivial
theorem law_holds.tw447027507633508388 : True := trivial
theorem law_holds.tw7820799176418779761 : True := trivial
theorem law_holds.tw9975692261777386857 : True := trivial
theorem law_holds.tw13195891287714217856 : True := trivial
theorem law_holds.tw15514866124879379921 : True := trivial
theorem law_holds.tw6333624483447246961 : True := trivial
theorem law_holds.tw8505831140886102350 : True := trivial
theorem law_holds.tw13536078969547264968 : True := trivial
theorem law_holds.tw3672438013989251361 : True := trivial
theorem law_holds.tw3692103080737180250 : True := trivial
theorem law_holds.tw10841264019214440115 : True := trivial
theorem law_holds.tw7636989558263936852 : True := trivial
theorem law_holds.tw14704515778605914334 : True := trivial
theorem law_holds.tw3426337659310251177 : True := trivial
theorem law_holds.tw15829985883664642994 : True := trivial
theorem law_holds.tw14531881819706719225 : True := trivial
theorem law_holds.tw2139843940965253949 : True := trivial
theorem law_holds.tw13182730311906835528 : True := trivial
theorem law_holds.tw11977050620070087417 : True := trivial
theorem law_holds.tw11755603022844944925 : True := trivial
theorem law_holds.tw4503035019201841076 : True := trivial
theorem law_holds.tw14559193561218252903 : True := trivial
theorem law_holds.tw7143754711056708316 : True := trivial
theorem law_holds.tw3776956092104397036 : True := trivial
theorem law_holds.tw914809245265985587 : True := trivial
theorem law_holds.tw1819244514083003361 : True := trivial
theorem law_holds.tw8266603773606604290 : True := trivial
theorem law_holds.tw12001131798957381970 : True := trivial
theorem law_holds.tw12163923063683932303 : True := trivial
theorem law_holds.tw8806649888931605024 : True := trivial
theorem law_holds.tw2842810181116790245 : True := trivial
theorem law_holds.tw6260460797876433568 : True := trivial
theorem law_holds.tw11690447701083486646 : True := trivial
theorem law_holds.tw11417216600806533712 : True := trivial
theorem law_holds.tw9008208021394543004 : True := trivial
theorem law_holds.tw6709271908398517637 : True := trivial
theorem law_holds.tw4105061398784577018 : True := trivial
theorem law_holds.tw3315642898252998016 : True := trivial
theorem law_holds.tw16836969012518115619 : True := trivial
theorem law_holds.tw7134303821544871200 : True := trivial
theorem law_holds.tw15286754330294739536 : True := trivial
theorem law_holds.tw7544913113114293122 : True := trivial
theorem law_holds.tw14571795756577361901 : True := trivial
theorem law_holds.tw2142710703020379005 : True := trivial
theorem law_holds.tw10093647634046251098 : True := trivial
theorem law_holds.tw7472407996622490835 : True := trivial
theorem law_holds.tw15661869461025623997 : True := trivial
theorem law_holds.tw10102834934717047885 : True := trivial
theorem law_holds.tw11609493526922420660 : True := trivial
theorem law_holds.tw14351635765420936899 : True := trivial
theorem law_holds.tw12476058986133298565 : True := trivial
theorem law_holds.tw15837584211629593338 : True := trivial
theorem law_holds.tw8922897050441119698 : True := trivial
theorem law_holds.tw8334431915071622068 : True := trivial
theorem law_holds.tw12029126673135917974 : True := trivial
theorem law_holds.tw17169043682955552997 : True := trivial
theorem law_holds.tw326997939128634323 : True := trivial
theorem law_holds.tw8249079356659094474 : True := trivial
theorem law_holds.tw16893121556090616931 : True := trivial
theorem law_holds.tw4146061822495498468 : True := trivial
theorem law_holds.tw11404014056486942332 : True := trivial
theorem law_holds.tw14390602165704524457 : True := trivial
theorem law_holds.tw11289095316329951393 : True := trivial
theorem law_holds.tw10346744231138586394 : True := trivial
theorem law_holds.tw7356724547972884604 : True := trivial
theorem law_holds.tw15609566024721092083 : True := trivial
theorem law_holds.tw14646867148444618371 : True := trivial
theorem law_holds.tw18203989763732354715 : True := trivial
theorem law_holds.tw2887994833065977647 : True := trivial
theorem law_holds.tw13388431603621797793 : True := trivial
theorem law_holds.tw16961963742403092116 : True := trivial
theorem law_holds.tw16368874440196955584 : True := trivial
theorem law_holds.tw10817052189556005596 : True := trivial
theorem law_holds.tw14064573792008682920 : True := trivial
theorem law_holds.tw13220211186989608806 : True := trivial
theorem law_holds.tw3625451137614018508 : True := trivial
theorem law_holds.tw16406091861079842607 : True := trivial
theorem law_holds.tw14350573489546498162 : True := trivial
theorem law_holds.tw3361303092190944451 : True := trivial
theorem law_holds.tw71255217949683197 : True := trivial
theorem law_holds.tw15948226213815290510 : True := trivial
theorem law_holds.tw16641252976520058099 : True := trivial
theorem law_holds.tw17570675385486235261 : True := trivial
theorem law_holds.tw17371252989657294990 : True := trivial
theorem law_holds.tw7477561646820768214 : True := trivial
theorem law_holds.tw3721179886434227535 : True := trivial
theorem law_holds.tw16202244259718314570 : True := trivial
theorem law_holds.tw4273555757443719353 : True := trivial
theorem law_holds.tw13454136545276886934 : True := trivial
theorem law_holds.tw16563099163409725306 : True := trivial
theorem law_holds.tw3313065913633700124 : True := trivial
theorem law_holds.tw15662257034091697019 : True := trivial
theorem law_holds.tw2887050238494874643 : True := trivial
theorem law_holds.tw2327590871639926724 : True := trivial
theorem law_holds.tw13958071646730322851 : True := trivial
theorem law_holds.tw1605662777757193095 : True := trivial
theorem law_holds.tw8890443458166856008 : True := trivial
theorem law_holds.tw7356349956106387506 : True := trivial
theorem law_holds.tw2334766641761910077 : True := trivial
theorem law_holds.tw12847567107135931479 : True := trivial
theorem law_holds.tw11315637435222106236 : True := trivial
theorem law_holds.tw12732824653754844360 : True := trivial
theorem law_holds.tw5488909634684464944 : True := trivial
theorem law_holds.tw16883458599210261866 : True := trivial
theorem law_holds.tw8176227357466254829 : True := trivial
theorem law_holds.tw3943428198234077543 : True := trivial
theorem law_holds.tw11283290899035178999 : True := trivial
theorem law_holds.tw16335311869981183947 : True := trivial
theorem law_holds.tw3612332870262773283 : True := trivial
theorem law_holds.tw12597187120891498251 : True := trivial
theorem law_holds.tw10079444305495103266 : True := trivial
theorem law_holds.tw1909877003179415225 : True := trivial
theorem law_holds.tw455179833554555240 : True := trivial
theorem law_holds.tw7548927433761560803 : True := trivial
theorem law_holds.tw11470271118054631628 : True := trivial
theorem law_holds.tw7311554392007033315 : True := trivial
theorem law_holds.tw11067727234611919522 : True := trivial
theorem law_holds.tw6131411735021997470 : True := trivial
theorem law_holds.tw9758047768218912823 : True := trivial
theorem law_holds.tw3585619396377516438 : True := trivial
theorem law_holds.tw9875236377963488844 : True := trivial
theorem law_holds.tw9965324091349369512 : True := trivial
theorem law_holds.tw11187323696070517052 : True := trivial
theorem law_holds.tw13800757232730249582 : True := trivial
theorem law_holds.tw7087491825025586495 : True := trivial
theorem law_holds.tw15695062497276918967 : True := trivial
theorem law_holds.tw4072507727158212662 : True := trivial
theorem law_holds.tw2043166853727251185 : True := trivial
theorem law_holds.tw7675160084493405025 : True := trivial
theorem law_holds.tw7761691375167764622 : True := trivial
theorem law_holds.tw9611832331244035263 : True := trivial
theorem law_holds.tw16614716721108272449 : True := trivial
theorem law_holds.tw6463668430954543056 : True := trivial
theorem law_holds.tw14289194402921355359 : True := trivial
theorem law_holds.tw6122225920155410508 : True := trivial
theorem law_holds.tw18197852217732850983 : True := trivial
theorem law_holds.tw7089819591129360890 : True := trivial
theorem law_holds.tw13334914271144262431 : True := trivial
theorem law_holds.tw9548147230944474901 : True := trivial
theorem law_holds.tw5385890167983211742 : True := trivial
theorem law_holds.tw3707715988154104229 : True := trivial
theorem law_holds.tw1791086108937442324 : True := trivial
theorem law_holds.tw7917754353467396125 : True := trivial
theorem law_holds.tw15154110283740273250 : True := trivial
theorem law_holds.tw4335992446042490282 : True := trivial
theorem law_holds.tw13902218012105463410 : True := trivial
theorem law_holds.tw1186782194237197914 : True := trivial
theorem law_holds.tw8401860817304669148 : True := trivial
theorem law_holds.tw13730824268290810741 : True := trivial
theorem law_holds.tw699380112222796084 : True := trivial
theorem law_holds.tw9634777828066323256 : True := trivial
theorem law_holds.tw12874571214893485439 : True := trivial
theorem law_holds.tw18016632835344607894 : True := trivial
theorem law_holds.tw8035577848987061507 : True := trivial
theorem law_holds.tw10072288433597638986 : True := trivial
theorem law_holds.tw7034799258891941112 : True := trivial
theorem law_holds.tw12547139144490466682 : True := trivial
theorem law_holds.tw9606376775287448836 : True := trivial
theorem law_holds.tw10585544012083477974 : True := trivial
theorem law_holds.tw15796309260620551687 : True := trivial
theorem law_holds.tw6368222172908013342 : True := trivial
theorem law_holds.tw6726159173723076276 : True := trivial
theorem law_holds.tw3989893010996989713 : True := trivial
theorem law_holds.tw10441050188594101415 : True := trivial
theorem law_holds.tw10219130546068891940 : True := trivial
theorem law_holds.tw8472228645029834797 : True := trivial
theorem law_holds.tw9431515893933034641 : True := trivial
theorem law_holds.tw15837452725152343555 : True := trivial
theorem law_holds.tw12610764987094191714 : True := trivial
theorem law_holds.tw4008084134468147086 : True := trivial
theorem law_holds.tw1376783240425437725 : True := trivial
theorem law_holds.tw2667362832866536986 : True := trivial
theorem law_holds.tw6693162373230288027 : True := trivial
theorem law_holds.tw8860054118572591635 : True := trivial
theorem law_holds.tw13392613628428298086 : True := trivial
theorem law_holds.tw16381176275627223697 : True := trivial
theorem law_holds.tw17910646669766240164 : True := trivial
theorem law_holds.tw14997073306097389879 : True := trivial
theorem law_holds.tw18006792725990754497 : True := trivial
theorem law_holds.tw13667737974841707781 : True := trivial
theorem law_holds.tw9299561783631509971 : True := trivial
theorem law_holds.tw14052961738847306570 : True := trivial
theorem law_holds.tw17553930602362091883 : True := trivial
theorem law_holds.tw14804154826342961292 : True := trivial
theorem law_holds.tw7444726056529596689 : True := trivial
theorem law_holds.tw10247133587077514887 : True := trivial
theorem law_holds.tw14570154010313876346 : True := trivial
theorem law_holds.tw3595789414353437717 : True := trivial
theorem law_holds.tw2928182479919356999 : True := trivial
theorem law_holds.tw6674817763981286723 : True := trivial
theorem law_holds.tw3152906847767001463 : True := trivial
theorem law_holds.tw16935243356766158856 : True := trivial
theorem law_holds.tw11097350217990362986 : True := trivial
theorem law_holds.tw15452448965706171373 : True := trivial
theorem law_holds.tw2055734563569237896 : True := trivial
theorem law_holds.tw7660400162925590741 : True := trivial
theorem law_holds.tw13387019031968454983 : True := trivial
theorem law_holds.tw4000965053056674031 : True := trivial
theorem law_holds.tw14335913921861858828 : True := trivial
theorem law_holds.tw14741324775375369589 : True := trivial
theorem law_holds.tw5514985750730242732 : True := trivial
theorem law_holds.tw13478230802861573701 : True := trivial
theorem law_holds.tw9291465448432399564 : True := trivial
theorem law_holds.tw2446358144275080391 : True := trivial
theorem law_holds.tw4323815956820902445 : True := trivial
theorem law_holds.tw12394330538082041428 : True := trivial
theorem law_holds.tw8061732933902216757 : True := trivial
theorem law_holds.tw18207139094907211405 : True := trivial
theorem law_holds.tw2589748818833699389 : True := trivial
theorem law_holds.tw13055523775352357715 : True := trivial
theorem law_holds.tw12291295341487003417 : True := trivial
theorem law_holds.tw9317688335297629284 : True := trivial
theorem law_holds.tw1382677567924326555 : True := trivial
theorem law_holds.tw6035225707136677951 : True := trivial
theorem law_holds.tw445335354869643106 : True := trivial
theorem law_holds.tw1496123403401453975 : True := trivial
theorem law_holds.tw13359578995793934705 : True := trivial
theorem law_holds.tw15140378357190847165 : True := trivial
theorem law_holds.tw18088736630749135056 : True := trivial
theorem law_holds.tw8763168800255643514 : True := trivial
theorem law_holds.tw4847869748599069932 : True := trivial
theorem law_holds.tw293627430662643474 : True := trivial
theorem law_holds.tw18221428039690301666 : True := trivial
theorem law_holds.tw11240126127631740588 : True := trivial
theorem law_holds.tw13674158931818614880 : True := trivial
theorem law_holds.tw3028213030429885723 : True := trivial
theorem law_holds.tw17333074002647195236 : True := trivial
theorem law_holds.tw12267387818898314102 : True := trivial
theorem law_holds.tw6677821561840896501 : True := trivial
theorem law_holds.tw12459966957829302596 : True := trivial
theorem law_holds.tw10968802771074238664 : True := trivial
theorem law_holds.tw6934448944433832347 : True := trivial
theorem law_holds.tw932483933274728699 : True := trivial
theorem law_holds.tw653560878884961445 : True := trivial
theorem law_holds.tw11179126903783522316 : True := trivial
theorem law_holds.tw11571458074648584396 : True := trivial
theorem law_holds.tw8844300528656570046 : True := trivial
theorem law_holds.tw7759241980135008877 : True := trivial
theorem law_holds.tw12987194180023231900 : True := trivial
theorem law_holds.tw11539556534233449701 : True := trivial
set_option Elab.async true in
set_option maxRecDepth 100000 in
set_option maxHeartbeats 8000000 in
theorem law_holds : PySem.Challenge.rw_ai0021_01.Holds := by
  w_on
  o_law
  o_head (kHook pre.heap_1 [nat_lit 2, nat_lit 3, nat_lit 15, nat_lit 17, nat_lit 18, nat_lit 20, nat_lit 21, nat_lit 22, nat_lit 25, nat_lit 26, nat_lit 27, nat_lit 30, nat_lit 31, nat_lit 32, nat_lit 39, nat_lit 40, nat_lit 41, nat_lit 42, nat_lit 45, nat_lit 47, nat_lit 48, nat_lit 50, nat_lit 51, nat_lit 52, nat_lit 54, nat_lit 55, nat_lit 57, nat_lit 58, nat_lit 59, nat_lit 66, nat_lit 67, nat_lit 68, nat_lit 69, nat_lit 79, nat_lit 81, nat_lit 82, nat_lit 84, nat_lit 85, nat_lit 86, nat_lit 87, nat_lit 88, nat_lit 89, nat_lit 90, nat_lit 91, nat_lit 94, nat_lit 101, nat_lit 102, nat_lit 103, nat_lit 106, nat_lit 113, nat_lit 114, nat_lit 115, nat_lit 118, nat_lit 125, nat_lit 126, nat_lit 128, nat_lit 129, nat_lit 131, nat_lit 132, nat_lit 133, nat_lit 135, nat_lit 136, nat_lit 138, nat_lit 139, nat_lit 140, nat_lit 142, nat_lit 143, nat_lit 145, nat_lit 146, nat_lit 147, nat_lit 149, nat_lit 150, nat_lit 152, nat_lit 153, nat_lit 154, nat_lit 155, nat_lit 157, nat_lit 158, nat_lit 160, nat_lit 161, nat_lit 162, nat_lit 164, nat_lit 165, nat_lit 167, nat_lit 168, nat_lit 169, nat_lit 171, nat_lit 172, nat_lit 174, nat_lit 175, nat_lit 176, nat_lit 178, nat_lit 179, nat_lit 181, nat_lit 182, nat_lit 183, nat_lit 185, nat_lit 186, nat_lit 188, nat_lit 189, nat_lit 190, nat_lit 192, nat_lit 193, nat_lit 195, nat_lit 196, nat_lit 197, nat_lit 199, nat_lit 200, nat_lit 202, nat_lit 203, nat_lit 204, nat_lit 206, nat_lit 207, nat_lit 209, nat_lit 210, nat_lit 211, nat_lit 213, nat_lit 214, nat_lit 216, nat_lit 217, nat_lit 218, nat_lit 220, nat_lit 221, nat_lit 223, nat_lit 224, nat_lit 225, nat_lit 227, nat_lit 228, nat_lit 230, nat_lit 231, nat_lit 232, nat_lit 234, nat_lit 235, nat_lit 237, nat_lit 238, nat_lit 239, nat_lit 241, nat_lit 242, nat_lit 244, nat_lit 245, nat_lit 246, nat_lit 247, nat_lit 249, nat_lit 250, nat_lit 252, nat_lit 253, nat_lit 254, nat_lit 255, nat_lit 257, nat_lit 258, nat_lit 260, nat_lit 261, nat_lit 262, nat_lit 263, nat_lit 265, nat_lit 266, nat_lit 268, nat_lit 269, nat_lit 270, nat_lit 271, nat_lit 273, nat_lit 274, nat_lit 276, nat_lit 277, nat_lit 278, nat_lit 280, nat_lit 281, nat_lit 283, nat_lit 284, nat_lit 285, nat_lit 287, nat_lit 288, nat_lit 290, nat_lit 291, nat_lit 292, nat_lit 293, nat_lit 295, nat_lit 296, nat_lit 298, nat_lit 299, nat_lit 300, nat_lit 301, nat_lit 303, nat_lit 304, nat_lit 306, nat_lit 307, nat_lit 308, nat_lit 310, nat_lit 311, nat_lit 313, nat_lit 314, nat_lit 315, nat_lit 317, nat_lit 318, nat_lit 320, nat_lit 321, nat_lit 322, nat_lit 324, nat_lit 325, nat_lit 327, nat_lit 328, nat_lit 329, nat_lit 331, nat_lit 332, nat_lit 334, nat_lit 335, nat_lit 336, nat_lit 338, nat_lit 339, nat_lit 341, nat_lit 342, nat_lit 343, nat_lit 344, nat_lit 345, nat_lit 348, nat_lit 355, nat_lit 356, nat_lit 358, nat_lit 359, nat_lit 361, nat_lit 362, nat_lit 363, nat_lit 365, nat_lit 366, nat_lit 368, nat_lit 369, nat_lit 370, nat_lit 372, nat_lit 373, nat_lit 375, nat_lit 376, nat_lit 377, nat_lit 379, nat_lit 380, nat_lit 382, nat_lit 383, nat_lit 384, nat_lit 386, nat_lit 387, nat_lit 389, nat_lit 390, nat_lit 391, nat_lit 393, nat_lit 394, nat_lit 396, nat_lit 397, nat_lit 398, nat_lit 399, nat_lit 401, nat_lit 402, nat_lit 404, nat_lit 405, nat_lit 406, nat_lit 407, nat_lit 409, nat_lit 410, nat_lit 412, nat_lit 413, nat_lit 414, nat_lit 415, nat_lit 417, nat_lit 418, nat_lit 420, nat_lit 421, nat_lit 422, nat_lit 423, nat_lit 425, nat_lit 426, nat_lit 428, nat_lit 429, nat_lit 430, nat_lit 431, nat_lit 433, nat_lit 434, nat_lit 436, nat_lit 437, nat_lit 438, nat_lit 440, nat_lit 441, nat_lit 443, nat_lit 444, nat_lit 445, nat_lit 447, nat_lit 448, nat_lit 450, nat_lit 451, nat_lit 452, nat_lit 454, nat_lit 455, nat_lit 457, nat_lit 458, nat_lit 459, nat_lit 461, nat_lit 462, nat_lit 464, nat_lit 465, nat_lit 466, nat_lit 468, nat_lit 469, nat_lit 471, nat_lit 472, nat_lit 473, nat_lit 475, nat_lit 476, nat_lit 478, nat_lit 479, nat_lit 480, nat_lit 482, nat_lit 483, nat_lit 485, nat_lit 486, nat_lit 487, nat_lit 489, nat_lit 490, nat_lit 492, nat_lit 493, nat_lit 494, nat_lit 496, nat_lit 497, nat_lit 499, nat_lit 500, nat_lit 501, nat_lit 503, nat_lit 504, nat_lit 506, nat_lit 507, nat_lit 508, nat_lit 510, nat_lit 511, nat_lit 513, nat_lit 514, nat_lit 515, nat_lit 516, nat_lit 518, nat_lit 519, nat_lit 521, nat_lit 522, nat_lit 523, nat_lit 524, nat_lit 526, nat_lit 527, nat_lit 529, nat_lit 530, nat_lit 531, nat_lit 532, nat_lit 534, nat_lit 535, nat_lit 537, nat_lit 538, nat_lit 539, nat_lit 540, nat_lit 542, nat_lit 543, nat_lit 545, nat_lit 546, nat_lit 547, nat_lit 548, nat_lit 550, nat_lit 551, nat_lit 553, nat_lit 554, nat_lit 555, nat_lit 557, nat_lit 558, nat_lit 560, nat_lit 561, nat_lit 562, nat_lit 564, nat_lit 565, nat_lit 567, nat_lit 568, nat_lit 569, nat_lit 571, nat_lit 572, nat_lit 574, nat_lit 575, nat_lit 576, nat_lit 578, nat_lit 579, nat_lit 581, nat_lit 582, nat_lit 583, nat_lit 585, nat_lit 586, nat_lit 588, nat_lit 589, nat_lit 590, nat_lit 591, nat_lit 592, nat_lit 602, nat_lit 604, nat_lit 605, nat_lit 607, nat_lit 608, nat_lit 609, nat_lit 610, nat_lit 611, nat_lit 612, nat_lit 614, nat_lit 615, nat_lit 617, nat_lit 618, nat_lit 619, nat_lit 620, nat_lit 621, nat_lit 622, nat_lit 624, nat_lit 625, nat_lit 627, nat_lit 628, nat_lit 629, nat_lit 631, nat_lit 632, nat_lit 634, nat_lit 635, nat_lit 636, nat_lit 638, nat_lit 639, nat_lit 641, nat_lit 642, nat_lit 643, nat_lit 645, nat_lit 646, nat_lit 648, nat_lit 649, nat_lit 650, nat_lit 651, nat_lit 652, nat_lit 653, nat_lit 655, nat_lit 656, nat_lit 658, nat_lit 659, nat_lit 660, nat_lit 662, nat_lit 663, nat_lit 665, nat_lit 666, nat_lit 667, nat_lit 669, nat_lit 670, nat_lit 672, nat_lit 673, nat_lit 674, nat_lit 675, nat_lit 676, nat_lit 677, nat_lit 678, nat_lit 681, nat_lit 688, nat_lit 690, nat_lit 691, nat_lit 693, nat_lit 694, nat_lit 695, nat_lit 696, nat_lit 697, nat_lit 698, nat_lit 700, nat_lit 701, nat_lit 703, nat_lit 704, nat_lit 705, nat_lit 707, nat_lit 708, nat_lit 710, nat_lit 711, nat_lit 712, nat_lit 713, nat_lit 714, nat_lit 717, nat_lit 724, nat_lit 725, nat_lit 726, nat_lit 729, nat_lit 736, nat_lit 737, nat_lit 738, nat_lit 741, nat_lit 748, nat_lit 749, nat_lit 750, nat_lit 753, nat_lit 760, nat_lit 761, nat_lit 762, nat_lit 763, nat_lit 766, nat_lit 767, nat_lit 768, nat_lit 770, nat_lit 771, nat_lit 773, nat_lit 774, nat_lit 775, nat_lit 776, nat_lit 777, nat_lit 780, nat_lit 781, nat_lit 782, nat_lit 784, nat_lit 785, nat_lit 787, nat_lit 788, nat_lit 789, nat_lit 791, nat_lit 792, nat_lit 794, nat_lit 795, nat_lit 796, nat_lit 798, nat_lit 799, nat_lit 801, nat_lit 802, nat_lit 803, nat_lit 804, nat_lit 805, nat_lit 806, nat_lit 808, nat_lit 809, nat_lit 811, nat_lit 812, nat_lit 813, nat_lit 814, nat_lit 816, nat_lit 817, nat_lit 819, nat_lit 820, nat_lit 821, nat_lit 822, nat_lit 823, nat_lit 826, nat_lit 827, nat_lit 828, nat_lit 829, nat_lit 830, nat_lit 831, nat_lit 832, nat_lit 835, nat_lit 836, nat_lit 837, nat_lit 838, nat_lit 839, nat_lit 840, nat_lit 843, nat_lit 844, nat_lit 845, nat_lit 846, nat_lit 847, nat_lit 850, nat_lit 852, nat_lit 853, nat_lit 855, nat_lit 856, nat_lit 857, nat_lit 860, nat_lit 861] (fun _ => by kernel_rfl))
  case hw => w_witness2
  k_go0
  k_fold
  rename_i w s0 s1 mg mb G Y fa o pm doc ho hg KX X V GL T B TE TW w17 w16 M w15 w14 hcd ns hs hlay0 hL1 hr1 hl2 w12 w11 l vs w8 hL ra w1 r0 hI hr hcond hcond2 K0 hD h1 tk1 F o8 o7 o6 o5 o4 o3 o2 o1 d8 d7 d6 d5 d4 d3 d2 d1 N X0
  clear G Y hs hlay0 hL1 hr1 hl2 ra w1 r0 hr hcond2 hD X0 GL TE TW M ho B X V
  have hlen : ns.length ≤ 63 := by omega
  have K1 : Below callerA s1.heap [] s1.heap := K0
  clear hcond K0 hcd
  replace d1 : o1.data = Data.cell (some (Value.ref l)) := d1
  replace F := frC (fun _ => none) F fun q => rfl
  refine wpAny_execs_cons ?_
  refine @cutM _ _ _ _ _ _ (fun s' => E5 fun (h2 : Heap) (tk : Nat) (o2' : Obj) (c : Nat) (t : Tok) => A6 (s' = { s1 with heap := h2, toks := tk }) (1 ≤ c) (c ≤ 4) (o2'.data = Data.cell (some (Value.int (c : Int) t))) (Fr s1.heap s1.heap.objs.size h2 (fun _ => none)) (News s1.heap s1.heap.objs.size h2 (((s1.heap.objs.size + 1 + 1 + 1 + 1 + 1 + 1 + 1 + 1, o8) :: (s1.heap.objs.size + 1 + 1 + 1 + 1 + 1 + 1 + 1, o7) :: (s1.heap.objs.size + 1 + 1 + 1 + 1 + 1 + 1, o6) :: (s1.heap.objs.size + 1 + 1 + 1 + 1 + 1, o5) :: (s1.heap.objs.size + 1 + 1 + 1 + 1, o4) :: (s1.heap.objs.size + 1 + 1 + 1, o3) :: (s1.heap.objs.size + 1 + 1, o2') :: (s1.heap.objs.size + 1, o1) :: [])))) ?_ ?_
  · k_steps
    any_goals with_reducible exact True.intro
    have e1 : 1 ≤ 1 + (num ns 0).fmod 4 := by have := Int.fmod_nonneg_of_pos (num ns 0) (by decide : (0 : Int) < 4); omega
    have e2 : 1 + (num ns 0).fmod 4 ≤ 4 := by have := Int.fmod_lt_of_pos (num ns 0) (by decide : (0 : Int) < 4); omega
    generalize 1 + (num ns 0).fmod 4 = z at *
    obtain ⟨c, rfl⟩ := Int.eq_ofNat_of_zero_le (by omega : 0 ≤ z)
    exact ⟨_, _, _, c, _, rfl, by omega, by omega, by assumption, by assumption, by assumption⟩
  rintro s' ⟨h2, tk2, o2', c, t2, rfl, hc1, hc4, d2', F2, N2⟩
  clear F N d2
  refine wpAny_execs_cons ?_
  refine @cutM _ _ _ _ _ _ (fun s' => E5 fun (h2 : Heap) (tk : Nat) (D : Addr) (us : List Value) (is : List Int) => A7 (s' = { s1 with heap := h2, toks := tk }) (is.length = c) (IntsAre us is) ((∀ i ∈ is, 0 ≤ i ∧ i < 5)) ((@LT.lt Nat _ (s1.heap.objs.size + 8) D ∨ @LT.lt Nat _ D (s1.heap.objs.size + 1))) (Fr s1.heap s1.heap.objs.size h2 (fun q => if q = Str.ofString "indexes" then some (Value.ref D) else none)) (News s1.heap s1.heap.objs.size h2 ((D, LCg.lst us) :: ((s1.heap.objs.size + 1 + 1 + 1 + 1 + 1 + 1 + 1 + 1, o8) :: (s1.heap.objs.size + 1 + 1 + 1 + 1 + 1 + 1 + 1, o7) :: (s1.heap.objs.size + 1 + 1 + 1 + 1 + 1 + 1, o6) :: (s1.heap.objs.size + 1 + 1 + 1 + 1 + 1, o5) :: (s1.heap.objs.size + 1 + 1 + 1 + 1, o4) :: (s1.heap.objs.size + 1 + 1 + 1, o3) :: (s1.heap.objs.size + 1 + 1, o2') :: (s1.heap.objs.size + 1, o1) :: [])))) ?_ ?_
  · k_steps
    rename_i hr F3 N3 _
    refine ⟨LCg.CompSrc.range (n := c) (by rfl) F3 N3 hr (by
      have : c = 1 ∨ c = 2 ∨ c = 3 ∨ c = 4 := by omega
      rcases this with rfl | rfl | rfl | rfl <;> decide) (by
      have : c = 1 ∨ c = 2 ∨ c = 3 ∨ c = 4 := by omega
      rcases this with rfl | rfl | rfl | rfl <;> rfl) (by show _ ≤ 2 ^ 24; omega) fun g => ?_⟩
    refine rest_ind (IdxInv ((s1.heap.objs.size + 1 + 1 + 1 + 1 + 1 + 1 + 1 + 1, o8) :: (s1.heap.objs.size + 1 + 1 + 1 + 1 + 1 + 1 + 1, o7) :: (s1.heap.objs.size + 1 + 1 + 1 + 1 + 1 + 1, o6) :: (s1.heap.objs.size + 1 + 1 + 1 + 1 + 1, o5) :: (s1.heap.objs.size + 1 + 1 + 1 + 1, o4) :: (s1.heap.objs.size + 1 + 1 + 1, o3) :: (s1.heap.objs.size + 1 + 1, o2') :: (s1.heap.objs.size + 1, o1) :: [])) ⟨rfl, [], rfl, .nil, fun _ h => nomatch h⟩ ?_ ?_
    · rintro i ys nw v I oI C oC D m₂ h tk E' hi ⟨rfl, is, hlen2, hI2, hbd⟩ ⟨tv, rfl⟩ hC hx F2 N2 off ne
      clear hr F3 N3 ne
      have hQk : Quick := ⟨⟩
      k_steps
      refine ⟨⟨_, _, _, rfl, by assumption, by assumption, off, True.intro, rfl, is ++ [_], ?_, hI2.append (.cons _ _ .nil), ?_⟩⟩
      · rw [List.length_append, hlen2]; rfl
      · intro j hj
        rcases List.mem_append.mp hj with hj | hj
        · exact hbd j hj
        · rw [List.mem_singleton.mp hj]
          exact ⟨Int.fmod_nonneg_of_pos _ (by decide), Int.fmod_lt_of_pos _ (by decide)⟩
    · rintro ys nw ⟨rfl, is, hlen2, hI2, hbd⟩
      clear hr F3 N3
      unfold LCg.FinA
      intro D' h' tk' F2 N2 o1'
      simp only [LCg.Off1, and_true] at o1'
      have hDD : @LT.lt Nat _ (s1.heap.objs.size + 8) D' ∨ @LT.lt Nat _ D' (s1.heap.objs.size + 1) := by omega
      k_steps
      exact ⟨_, _, D', ys, is, rfl, hlen2, hI2, hbd, hDD, by assumption, by assumption⟩
  rintro s' ⟨h2, tk2, D, us, is, rfl, hisl, hius, hisb, hDL, F3, N3⟩
  clear F2 N2
  refine wpAny_execs_cons ?_
  refine @cutM _ _ _ _ _ _ (fun s' => E6 fun (h2 : Heap) (tk : Nat) (D2 : Addr) (its : Array Value) (brs : List Int) (own : List (Addr × Obj)) => A8 (s' = { s1 with heap := h2, toks := tk }) (brs ∈ menu) (Fr s1.heap s1.heap.objs.size h2 (fun q => if q = Str.ofString "branches" then some (Value.ref D2) else if q = Str.ofString "indexes" then some (Value.ref D) else none)) (News s1.heap s1.heap.objs.size h2 (own ++ (D, LCg.lst us) :: ((s1.heap.objs.size + 1 + 1 + 1 + 1 + 1 + 1 + 1 + 1, o8) :: (s1.heap.objs.size + 1 + 1 + 1 + 1 + 1 + 1 + 1, o7) :: (s1.heap.objs.size + 1 + 1 + 1 + 1 + 1 + 1, o6) :: (s1.heap.objs.size + 1 + 1 + 1 + 1 + 1, o5) :: (s1.heap.objs.size + 1 + 1 + 1 + 1, o4) :: (s1.heap.objs.size + 1 + 1 + 1, o3) :: (s1.heap.objs.size + 1 + 1, o2') :: (s1.heap.objs.size + 1, o1) :: []))) ((∃ n, (D2, listOf its n) ∈ own)) (IntsAre its.toList brs) (Far s1.heap.objs.size own) ((∀ p ∈ own, p.1 ≠ D))) ?_ ?_
  · k_steps
    rename_i F8 N8
    have e1 := Int.fmod_nonneg_of_pos (num ns 5) (by decide : (0 : Int) < 4)
    have e2 := Int.fmod_lt_of_pos (num ns 5) (by decide : (0 : Int) < 4)
    generalize (num ns 5).fmod 4 = z at *
    have hz : z = 0 ∨ z = 1 ∨ z = 2 ∨ z = 3 := by omega
    rcases hz with rfl | rfl | rfl | rfl
    · refine ⟨sub_item (x := .ref _) ⟨_, (N8 _ (List.mem_cons_self ..)).1, rfl, _, rfl⟩ (by decide) (by decide) rfl ?_⟩
      k_steps
      any_goals with_reducible exact True.intro
      refine ⟨_, _, _, _, [0, 1], [_, _, _, _, _], rfl, by decide, by assumption, by assumption, ⟨_, by exact .tail _ (.tail _ (.tail _ (.tail _ (.head _))))⟩, .cons _ _ (.cons _ _ .nil), ⟨fun p hp => ?_⟩, fun p hp => ?_⟩
      · simp only [List.mem_cons, List.not_mem_nil, or_false] at hp
        rcases hp with rfl | rfl | rfl | rfl | rfl <;> (refine .inl (ltN ?_); (try dsimp only); omega)
      · simp only [List.mem_cons, List.not_mem_nil, or_false] at hp
        rcases hp with rfl | rfl | rfl | rfl | rfl <;> k_ne
    · refine ⟨sub_item (x := .ref _) ⟨_, (N8 _ (List.mem_cons_self ..)).1, rfl, _, rfl⟩ (by decide) (by decide) rfl ?_⟩
      k_steps
      any_goals with_reducible exact True.intro
      refine ⟨_, _, _, _, [2, 0], [_, _, _, _, _], rfl, by decide, by assumption, by assumption, ⟨_, by exact .tail _ (.tail _ (.tail _ (.head _)))⟩, .cons _ _ (.cons _ _ .nil), ⟨fun p hp => ?_⟩, fun p hp => ?_⟩
      · simp only [List.mem_cons, List.not_mem_nil, or_false] at hp
        rcases hp with rfl | rfl | rfl | rfl | rfl <;> (refine .inl (ltN ?_); (try dsimp only); omega)
      · simp only [List.mem_cons, List.not_mem_nil, or_false] at hp
        rcases hp with rfl | rfl | rfl | rfl | rfl <;> k_ne
    · refine ⟨sub_item (x := .ref _) ⟨_, (N8 _ (List.mem_cons_self ..)).1, rfl, _, rfl⟩ (by decide) (by decide) rfl ?_⟩
      k_steps
      any_goals with_reducible exact True.intro
      refine ⟨_, _, _, _, [1, 3, 4], [_, _, _, _, _], rfl, by decide, by assumption, by assumption, ⟨_, by exact .tail _ (.tail _ (.head _))⟩, .cons _ _ (.cons _ _ (.cons _ _ .nil)), ⟨fun p hp => ?_⟩, fun p hp => ?_⟩
      · simp only [List.mem_cons, List.not_mem_nil, or_false] at hp
        rcases hp with rfl | rfl | rfl | rfl | rfl <;> (refine .inl (ltN ?_); (try dsimp only); omega)
      · simp only [List.mem_cons, List.not_mem_nil, or_false] at hp
        rcases hp with rfl | rfl | rfl | rfl | rfl <;> k_ne
    · refine ⟨sub_item (x := .ref _) ⟨_, (N8 _ (List.mem_cons_self ..)).1, rfl, _, rfl⟩ (by decide) (by decide) rfl ?_⟩
      k_steps
      any_goals with_reducible exact True.intro
      refine ⟨_, _, _, _, [4, 0, 2], [_, _, _, _, _], rfl, by decide, by assumption, by assumption, ⟨_, by exact .tail _ (.head _)⟩, .cons _ _ (.cons _ _ (.cons _ _ .nil)), ⟨fun p hp => ?_⟩, fun p hp => ?_⟩
      · simp only [List.mem_cons, List.not_mem_nil, or_false] at hp
        rcases hp with rfl | rfl | rfl | rfl | rfl <;> (refine .inl (ltN ?_); (try dsimp only); omega)
      · simp only [List.mem_cons, List.not_mem_nil, or_false] at hp
        rcases hp with rfl | rfl | rfl | rfl | rfl <;> k_ne
  rintro s' ⟨h2, tk2, D2, its, brs, own, rfl, hbrs, F4, N4, ⟨nb, hmb⟩, hws, hfar, hown⟩
  obtain ⟨ws, rfl⟩ : ∃ ws : List Value, its = ws.toArray := ⟨its.toList, by simp⟩
  replace hws : IntsAre ws brs := by simpa using hws
  replace N4 : News s1.heap s1.heap.objs.size h2 ((D, LCg.lst us) :: ((s1.heap.objs.size + 1 + 1 + 1 + 1 + 1 + 1 + 1 + 1, o8) :: (s1.heap.objs.size + 1 + 1 + 1 + 1 + 1 + 1 + 1, o7) :: (s1.heap.objs.size + 1 + 1 + 1 + 1 + 1 + 1, o6) :: (s1.heap.objs.size + 1 + 1 + 1 + 1 + 1, o5) :: (s1.heap.objs.size + 1 + 1 + 1 + 1, o4) :: (s1.heap.objs.size + 1 + 1 + 1, o3) :: (s1.heap.objs.size + 1 + 1, o2') :: (s1.heap.objs.size + 1, o1) :: own)) := fun p hp => N4 p (mem_mv (cells := ((s1.heap.objs.size + 1 + 1 + 1 + 1 + 1 + 1 + 1 + 1, o8) :: (s1.heap.objs.size + 1 + 1 + 1 + 1 + 1 + 1 + 1, o7) :: (s1.heap.objs.size + 1 + 1 + 1 + 1 + 1 + 1, o6) :: (s1.heap.objs.size + 1 + 1 + 1 + 1 + 1, o5) :: (s1.heap.objs.size + 1 + 1 + 1 + 1, o4) :: (s1.heap.objs.size + 1 + 1 + 1, o3) :: (s1.heap.objs.size + 1 + 1, o2') :: (s1.heap.objs.size + 1, o1) :: [])) hp)
  clear F3 N3
  refine wpAny_execs_cons ?_
  refine @cutM _ _ _ _ _ _ (fun s' => E8 fun (h2 : Heap) (tk : Nat) (o3' : Obj) (a : Nat) (wd : Nat) (t : Tok) (t' : Tok) (m : Str → Option Value) => A9 (s' = { s1 with heap := h2, toks := tk }) (a < c) (wd ≤ c) (o3'.data = Data.cell (some (Value.int (wd : Int) t))) (Fr s1.heap s1.heap.objs.size h2 m) (News s1.heap s1.heap.objs.size h2 ((D, LCg.lst us) :: ((s1.heap.objs.size + 1 + 1 + 1 + 1 + 1 + 1 + 1 + 1, o8) :: (s1.heap.objs.size + 1 + 1 + 1 + 1 + 1 + 1 + 1, o7) :: (s1.heap.objs.size + 1 + 1 + 1 + 1 + 1 + 1, o6) :: (s1.heap.objs.size + 1 + 1 + 1 + 1 + 1, o5) :: (s1.heap.objs.size + 1 + 1 + 1 + 1, o4) :: (s1.heap.objs.size + 1 + 1 + 1, o3') :: (s1.heap.objs.size + 1 + 1, o2') :: (s1.heap.objs.size + 1, o1) :: own))) (m (Str.ofString "indexes") = some (.ref D)) (m (Str.ofString "branches") = some (.ref D2)) (m (Str.ofString "at") = some (.int (a : Int) t'))) ?_ ?_
  · k_steps
    any_goals with_reducible exact True.intro
    have e1 : 0 ≤ (num ns 6).fmod (c : Int) := Int.fmod_nonneg_of_pos _ (by omega)
    have e2 : (num ns 6).fmod (c : Int) < c := Int.fmod_lt_of_pos _ (by omega)
    have e3 : 0 ≤ (num ns 7).fmod ((c : Int) + 1) := Int.fmod_nonneg_of_pos _ (by omega)
    have e4 : (num ns 7).fmod ((c : Int) + 1) < (c : Int) + 1 := Int.fmod_lt_of_pos _ (by omega)
    generalize (num ns 6).fmod ↑c = z6 at *
    generalize (num ns 7).fmod (↑c + 1) = z7 at *
    obtain ⟨a, rfl⟩ := Int.eq_ofNat_of_zero_le e1
    obtain ⟨wd, rfl⟩ := Int.eq_ofNat_of_zero_le e3
    exact ⟨_, _, _, a, wd, _, _, _, rfl, by omega, by omega, by assumption, by assumption, news_tl (by assumption), rfl, rfl, rfl⟩
  rintro s' ⟨h2, tk2, o3', at', wd, t3, tat, m, rfl, hat, hwd, d3', F5, N5, hmi, hmb2, hma⟩
  clear F4 N4 d3
  refine wpAny_execs_cons ?_
  refine @cutM _ _ _ _ _ _ (fun s' => E4 fun (h2 : Heap) (tk : Nat) (hs : Bool) (m : Str → Option Value) => A7 (s' = { s1 with heap := h2, toks := tk }) (Fr s1.heap s1.heap.objs.size h2 m) (News s1.heap s1.heap.objs.size h2 ((D, LCg.lst us) :: ((s1.heap.objs.size + 1 + 1 + 1 + 1 + 1 + 1 + 1 + 1, o8) :: (s1.heap.objs.size + 1 + 1 + 1 + 1 + 1 + 1 + 1, o7) :: (s1.heap.objs.size + 1 + 1 + 1 + 1 + 1 + 1, o6) :: (s1.heap.objs.size + 1 + 1 + 1 + 1 + 1, o5) :: (s1.heap.objs.size + 1 + 1 + 1 + 1, o4) :: (s1.heap.objs.size + 1 + 1 + 1, o3') :: (s1.heap.objs.size + 1 + 1, o2') :: (s1.heap.objs.size + 1, o1) :: own))) (m (Str.ofString "indexes") = some (.ref D)) (m (Str.ofString "branches") = some (.ref D2)) (m (Str.ofString "at") = some (.int (at' : Int) tat)) (m (Str.ofString "has_set") = some (.bool hs))) ?_ ?_
  · replace F5 := frK0 [(Str.ofString "indexes", .ref D), (Str.ofString "branches", .ref D2), (Str.ofString "at", .int (at' : Int) tat)] F5 (by
      intro p hp
      simp only [List.mem_cons, List.not_mem_nil, or_false] at hp
      rcases hp with rfl | rfl | rfl <;> assumption)
    clear hmi hmb2 hma
    k_steps
    any_goals with_reducible exact True.intro
    exact ⟨_, _, _, _, rfl, by assumption, by assumption, rfl, rfl, rfl, rfl⟩
  clear hmi hmb2 hma
  rintro s' ⟨h2, tk2, hs, m2, rfl, F6, N6, hmi, hmb2, hma, hmh⟩
  clear F5 N5
  refine wpAny_execs_cons ?_
  refine @cutM _ _ _ _ _ _ (fun s' => E7 fun (h2 : Heap) (tk : Nat) (us' : List Value) (els : List El) (own' : List (Addr × Obj)) (n : Nat) (m : Str → Option Value) => A12 (s' = { s1 with heap := h2, toks := tk }) (els = (if hs then (is.map El.int).set at' (.set brs) else is.map El.int)) (ElsIn own' us' els) (Far s1.heap.objs.size own') ((∀ p ∈ own', p.1 ≠ D)) ((∃ n, (D2, listOf (List.toArray ws) n) ∈ own')) (Fr s1.heap s1.heap.objs.size h2 m) (News s1.heap s1.heap.objs.size h2 ((D, listOf us'.toArray n) :: ((s1.heap.objs.size + 1 + 1 + 1 + 1 + 1 + 1 + 1 + 1, o8) :: (s1.heap.objs.size + 1 + 1 + 1 + 1 + 1 + 1 + 1, o7) :: (s1.heap.objs.size + 1 + 1 + 1 + 1 + 1 + 1, o6) :: (s1.heap.objs.size + 1 + 1 + 1 + 1 + 1, o5) :: (s1.heap.objs.size + 1 + 1 + 1 + 1, o4) :: (s1.heap.objs.size + 1 + 1 + 1, o3') :: (s1.heap.objs.size + 1 + 1, o2') :: (s1.heap.objs.size + 1, o1) :: own'))) (m (Str.ofString "indexes") = some (.ref D)) (m (Str.ofString "branches") = some (.ref D2)) (m (Str.ofString "at") = some (.int (at' : Int) tat)) (m (Str.ofString "has_set") = some (.bool hs))) ?_ ?_
  · replace F6 := frK0 [(Str.ofString "indexes", .ref D), (Str.ofString "branches", .ref D2), (Str.ofString "at", .int (at' : Int) tat), (Str.ofString "has_set", .bool hs)] F6 (by
      intro p hp
      simp only [List.mem_cons, List.not_mem_nil, or_false] at hp
      rcases hp with rfl | rfl | rfl | rfl <;> assumption)
    clear hmi hmb2 hma hmh
    have hwl := hws.length
    have hbl := menu_len hbrs
    have hpost : ∀ p ∈ ((s1.heap.objs.size + 1 + 1 + 1 + 1 + 1 + 1 + 1 + 1, o8) :: (s1.heap.objs.size + 1 + 1 + 1 + 1 + 1 + 1 + 1, o7) :: (s1.heap.objs.size + 1 + 1 + 1 + 1 + 1 + 1, o6) :: (s1.heap.objs.size + 1 + 1 + 1 + 1 + 1, o5) :: (s1.heap.objs.size + 1 + 1 + 1 + 1, o4) :: (s1.heap.objs.size + 1 + 1 + 1, o3') :: (s1.heap.objs.size + 1 + 1, o2') :: (s1.heap.objs.size + 1, o1) :: own), p.1 ≠ D := by
      intro p hp
      simp only [List.mem_cons] at hp
      rcases hp with rfl | rfl | rfl | rfl | rfl | rfl | rfl | rfl | hp
      iterate 8 k_ne
      exact hown p hp
    cases hs
    · k_steps
      exact ⟨_, _, us, _, own, _, _, rfl, rfl, .ofInts hius, hfar, hown, ⟨_, hmb⟩, by assumption, by assumption, rfl, rfl, rfl, rfl⟩
    · k_steps
      refine kup_listOf (zs := ws) (by k_asm) (by k_asm) (by k_mem) (by simp) (fun D3 n3 h5 F8 N8 l3 => ?_) (by simp only [List.toList_toArray]; show _ ≤ 2 ^ 24; omega)
      have l4 : s1.heap.objs.size + 8 < D3 := l3 (s1.heap.objs.size + 1 + 1 + 1 + 1 + 1 + 1 + 1 + 1, o8) (by k_mem)
      have l5 : D3 ≠ D := Nat.ne_of_gt (l3 (D, LCg.lst us) (by k_mem))
      k_steps
      refine ⟨set_any (pre := [_]) (by k_asm) (by k_asm) rfl (by simpa using l5) hpost (by omega) (by have := hius.length; omega) (by omega) fun h6 F9 N9 => ?_⟩
      k_steps
      refine ⟨_, _, us.set at' (.ref D3), _, (D3, listOf ws.toArray n3) :: own, us.length, _, rfl, rfl, ((ElsIn.ofInts hius).mono (fun p hp => nomatch hp : ∀ p ∈ ([] : List (Addr × Obj)), p ∈ _)).set' (.set (.head _) hws) at', ⟨fun p hp => ?_⟩, fun p hp => ?_, ⟨_, .tail _ hmb⟩, by assumption, fun p hp => N9 p ?_, rfl, rfl, rfl, rfl⟩
      · rcases List.mem_cons.mp hp with rfl | hp
        · exact .inl l4
        · exact hfar.out p hp
      · rcases List.mem_cons.mp hp with rfl | hp
        · exact l5
        · exact hown p hp
      · simp only [List.mem_cons, List.mem_append, List.not_mem_nil, or_false] at hp ⊢
        rcases hp with hp | hp | hp | hp | hp | hp | hp | hp | hp | hp | hp
        · exact .inr (.inl hp)
        all_goals simp only [hp, true_or, or_true]
  clear hmi hmb2 hma hmh
  rintro s' ⟨h2, tk2, us', els, own', nD, m3, rfl, hels0, hels, hfar', hown', ⟨nb', hmb'⟩, F7, N7, hmi, hmb2, hma, hmh⟩
  clear F6 N6 hown hfar hmb hius
  refine wpAny_execs_cons ?_
  refine @cutM _ _ _ _ _ _ (fun s' => E6 fun (h2 : Heap) (tk : Nat) (us2 : List Value) (els2 : List El) (n : Nat) (m : Str → Option Value) => A9 (s' = { s1 with heap := h2, toks := tk }) (els2 = (if wd < c then els.set wd .none else els)) (ElsIn own' us2 els2) (Fr s1.heap s1.heap.objs.size h2 m) (News s1.heap s1.heap.objs.size h2 ((D, listOf us2.toArray n) :: ((s1.heap.objs.size + 1 + 1 + 1 + 1 + 1 + 1 + 1 + 1, o8) :: (s1.heap.objs.size + 1 + 1 + 1 + 1 + 1 + 1 + 1, o7) :: (s1.heap.objs.size + 1 + 1 + 1 + 1 + 1 + 1, o6) :: (s1.heap.objs.size + 1 + 1 + 1 + 1 + 1, o5) :: (s1.heap.objs.size + 1 + 1 + 1 + 1, o4) :: (s1.heap.objs.size + 1 + 1 + 1, o3') :: (s1.heap.objs.size + 1 + 1, o2') :: (s1.heap.objs.size + 1, o1) :: own'))) (m (Str.ofString "indexes") = some (.ref D)) (m (Str.ofString "branches") = some (.ref D2)) (m (Str.ofString "at") = some (.int (at' : Int) tat)) (m (Str.ofString "has_set") = some (.bool hs))) ?_ ?_
  · replace F7 := frK0 [(Str.ofString "indexes", .ref D), (Str.ofString "branches", .ref D2), (Str.ofString "at", .int (at' : Int) tat), (Str.ofString "has_set", .bool hs)] F7 (by
      intro p hp
      simp only [List.mem_cons, List.not_mem_nil, or_false] at hp
      rcases hp with rfl | rfl | rfl | rfl <;> assumption)
    clear hmi hmb2 hma hmh
    have hul := hels.length
    have hel : els.length = c := by
      rw [hels0]
      split <;> simp [hisl]
    have hpost : ∀ p ∈ ((s1.heap.objs.size + 1 + 1 + 1 + 1 + 1 + 1 + 1 + 1, o8) :: (s1.heap.objs.size + 1 + 1 + 1 + 1 + 1 + 1 + 1, o7) :: (s1.heap.objs.size + 1 + 1 + 1 + 1 + 1 + 1, o6) :: (s1.heap.objs.size + 1 + 1 + 1 + 1 + 1, o5) :: (s1.heap.objs.size + 1 + 1 + 1 + 1, o4) :: (s1.heap.objs.size + 1 + 1 + 1, o3') :: (s1.heap.objs.size + 1 + 1, o2') :: (s1.heap.objs.size + 1, o1) :: own'), p.1 ≠ D := by
      intro p hp
      simp only [List.mem_cons] at hp
      rcases hp with rfl | rfl | rfl | rfl | rfl | rfl | rfl | rfl | hp
      iterate 8 k_ne
      exact hown' p hp
    by_cases hw : wd < c
    · k_steps
      refine ⟨set_any (pre := []) (by k_asm) (by k_asm) rfl (fun p hp => nomatch hp) hpost (by omega) (by omega) (by omega) fun h6 F9 N9 => ?_⟩
      k_steps
      exact ⟨_, _, us'.set wd .none, els.set wd .none, nD, _, rfl, (if_pos hw).symm, hels.set' .none wd, by assumption, N9, rfl, rfl, rfl, rfl⟩
    · k_steps
      exact ⟨_, _, us', els, nD, _, rfl, (if_neg hw).symm, hels, by assumption, by assumption, rfl, rfl, rfl, rfl⟩
  clear hmi hmb2 hma hmh
  rintro s' ⟨h2, tk2, us2, els2, nD2, m4, rfl, hels1, hels2, F8, N8, hmi, hmb2, hma, hmh⟩
  clear F7 N7 hels
  refine wpAny_execs_cons ?_
  refine @cutM _ _ _ _ _ _ (fun s' => E4 fun (h2 : Heap) (tk : Nat) (hs2 : Bool) (m : Str → Option Value) => A8 (s' = { s1 with heap := h2, toks := tk }) (hs2 = (hs && decide (wd ≠ at'))) (Fr s1.heap s1.heap.objs.size h2 m) (News s1.heap s1.heap.objs.size h2 ((D, listOf us2.toArray nD2) :: ((s1.heap.objs.size + 1 + 1 + 1 + 1 + 1 + 1 + 1 + 1, o8) :: (s1.heap.objs.size + 1 + 1 + 1 + 1 + 1 + 1 + 1, o7) :: (s1.heap.objs.size + 1 + 1 + 1 + 1 + 1 + 1, o6) :: (s1.heap.objs.size + 1 + 1 + 1 + 1 + 1, o5) :: (s1.heap.objs.size + 1 + 1 + 1 + 1, o4) :: (s1.heap.objs.size + 1 + 1 + 1, o3') :: (s1.heap.objs.size + 1 + 1, o2') :: (s1.heap.objs.size + 1, o1) :: own'))) (m (Str.ofString "indexes") = some (.ref D)) (m (Str.ofString "branches") = some (.ref D2)) (m (Str.ofString "at") = some (.int (at' : Int) tat)) (m (Str.ofString "has_set") = some (.bool hs2))) ?_ ?_
  · replace F8 := frK0 [(Str.ofString "indexes", .ref D), (Str.ofString "branches", .ref D2), (Str.ofString "at", .int (at' : Int) tat), (Str.ofString "has_set", .bool hs)] F8 (by
      intro p hp
      simp only [List.mem_cons, List.not_mem_nil, or_false] at hp
      rcases hp with rfl | rfl | rfl | rfl <;> assumption)
    clear hmi hmb2 hma hmh
    cases hs
    · k_steps
      try any_goals with_reducible exact True.intro
      exact ⟨_, _, _, _, rfl, rfl, by assumption, by assumption, rfl, rfl, rfl, rfl⟩
    · k_steps
      try any_goals with_reducible exact True.intro
      refine ⟨_, _, decide (wd ≠ at'), _, rfl, (Bool.true_and _).symm, by assumption, by assumption, rfl, rfl, rfl, ?_⟩
      refine congrArg (fun b => some (Value.bool b)) ?_
      rw [Bool.eq_iff_iff, bne_iff_ne, decide_eq_true_iff]
      omega
  clear hmi hmb2 hma hmh
  rintro s' ⟨h2, tk2, hs2, m5, rfl, hhs, F9, N9, hmi, hmb2, hma, hmh⟩
  clear F8 N8
  refine wpAny_execs_cons ?_
  refine @cutM _ _ _ _ _ _ (fun s' => E4 fun (h2 : Heap) (tk : Nat) (o4' : Obj) (m : Str → Option Value) => A8 (s' = { s1 with heap := h2, toks := tk }) (o4'.data = Data.cell (some (Value.bool (decide (wd < c))))) (Fr s1.heap s1.heap.objs.size h2 m) (News s1.heap s1.heap.objs.size h2 ((D, listOf us2.toArray nD2) :: ((s1.heap.objs.size + 1 + 1 + 1 + 1 + 1 + 1 + 1 + 1, o8) :: (s1.heap.objs.size + 1 + 1 + 1 + 1 + 1 + 1 + 1, o7) :: (s1.heap.objs.size + 1 + 1 + 1 + 1 + 1 + 1, o6) :: (s1.heap.objs.size + 1 + 1 + 1 + 1 + 1, o5) :: (s1.heap.objs.size + 1 + 1 + 1 + 1, o4') :: (s1.heap.objs.size + 1 + 1 + 1, o3') :: (s1.heap.objs.size + 1 + 1, o2') :: (s1.heap.objs.size + 1, o1) :: own'))) (m (Str.ofString "indexes") = some (.ref D)) (m (Str.ofString "branches") = some (.ref D2)) (m (Str.ofString "at") = some (.int (at' : Int) tat)) (m (Str.ofString "has_set") = some (.bool hs2))) ?_ ?_
  · replace F9 := frK0 [(Str.ofString "indexes", .ref D), (Str.ofString "branches", .ref D2), (Str.ofString "at", .int (at' : Int) tat), (Str.ofString "has_set", .bool hs2)] F9 (by
      intro p hp
      simp only [List.mem_cons, List.not_mem_nil, or_false] at hp
      rcases hp with rfl | rfl | rfl | rfl <;> assumption)
    clear hmi hmb2 hma hmh
    k_steps
    rename_i dd
    refine ⟨_, _, _, _, rfl, dd.trans ?_, by assumption, by assumption, rfl, rfl, rfl, rfl⟩
    exact congrArg (fun b => Data.cell (some (Value.bool b))) (decide_eq_decide.mpr Int.ofNat_lt)
  clear hmi hmb2 hma hmh
  rintro s' ⟨h2, tk2, o4', m6, rfl, d4', F10, N10, hmi, hmb2, hma, hmh⟩
  clear F9 N9 d4
  have hlaw : LawIn els2 c wd brs hs2 := law_in hisl hisb hat hbrs hels0 hels1 hhs
  have N11 : News s1.heap s1.heap.objs.size h2 ((s1.heap.objs.size + 1 + 1 + 1 + 1 + 1 + 1 + 1 + 1, o8) :: (s1.heap.objs.size + 1 + 1 + 1 + 1 + 1 + 1 + 1, o7) :: (s1.heap.objs.size + 1 + 1 + 1 + 1 + 1 + 1, o6) :: (s1.heap.objs.size + 1 + 1 + 1 + 1 + 1, o5) :: (s1.heap.objs.size + 1 + 1 + 1 + 1, o4') :: (s1.heap.objs.size + 1 + 1 + 1, o3') :: (s1.heap.objs.size + 1 + 1, o2') :: (s1.heap.objs.size + 1, o1) :: (D, listOf us2.toArray nD2) :: own') := fun p hp => N10 p (by
    simp only [List.mem_cons] at hp ⊢
    rcases hp with hp | hp | hp | hp | hp | hp | hp | hp | hp | hp <;> simp only [hp, true_or, or_true])
  have hfar1 : Far s1.heap.objs.size ((D, listOf us2.toArray nD2) :: own') := ⟨fun p hp => by
    rcases List.mem_cons.mp hp with rfl | hp
    · exact hDL
    · exact hfar'.out p hp⟩
  obtain ⟨own1, hown1, hD1, hmb1, hels3⟩ : ∃ own1, (D, listOf us2.toArray nD2) :: own' = own1 ∧ (D, listOf us2.toArray nD2) ∈ own1 ∧ (D2, listOf ws.toArray nb') ∈ own1 ∧ ElsIn own1 us2 els2 := ⟨_, rfl, .head _, .tail _ hmb', hels2.mono fun p hp => .tail _ hp⟩
  rw [hown1] at N11 hfar1
  clear N10 hown1 hels2 hmb' hown' hfar' hDL hels0 hels1 hhs hisl hat
  refine wpAny_execs_cons ?_
  refine @cutM _ _ _ _ _ _ (fun s' => E7 fun (h2 : Heap) (tk : Nat) (o5' : Obj) (x : Addr) (dx : Addr) (own2 : List (Addr × Obj)) (m : Str → Option Value) => A11 (s' = { s1 with heap := h2, toks := tk }) (o5'.data = Data.cell (some (Value.ref x))) (DerIn w own2 x dx D us2 els2) (Far s1.heap.objs.size own2) ((∀ p ∈ own1, p ∈ own2)) (Fr s1.heap s1.heap.objs.size h2 m) (News s1.heap s1.heap.objs.size h2 (((s1.heap.objs.size + 1 + 1 + 1 + 1 + 1 + 1 + 1 + 1, o8) :: (s1.heap.objs.size + 1 + 1 + 1 + 1 + 1 + 1 + 1, o7) :: (s1.heap.objs.size + 1 + 1 + 1 + 1 + 1 + 1, o6) :: (s1.heap.objs.size + 1 + 1 + 1 + 1 + 1, o5') :: (s1.heap.objs.size + 1 + 1 + 1 + 1, o4') :: (s1.heap.objs.size + 1 + 1 + 1, o3') :: (s1.heap.objs.size + 1 + 1, o2') :: (s1.heap.objs.size + 1, o1) :: own2))) (m (Str.ofString "indexes") = some (.ref D)) (m (Str.ofString "branches") = some (.ref D2)) (m (Str.ofString "at") = some (.int (at' : Int) tat)) (m (Str.ofString "has_set") = some (.bool hs2))) ?_ ?_
  · replace F10 := frK0 [(Str.ofString "indexes", .ref D), (Str.ofString "branches", .ref D2), (Str.ofString "at", .int (at' : Int) tat), (Str.ofString "has_set", .bool hs2)] F10 (by
      intro p hp
      simp only [List.mem_cons, List.not_mem_nil, or_false] at hp
      rcases hp with rfl | rfl | rfl | rfl <;> assumption)
    clear hmi hmb2 hma hmh
    k_steps
    refine ⟨wpAny_call (init_con w D us2 els2 (by rw [hlaw.len]; omega) hlaw.nones hlaw.sets _ _ mg mb _ _ _ _ _ _ _ _ _ _ _ _ _ _ _ _ _ _ K1 (by k_asm) KX (by k_asm) T rfl ⟨_, (by k_mem), hels3.mono fun p hp => (by k_mem), rfl⟩ ?_ ?_ ?_)⟩
    · decide
    · decide
    intro r tl h1 tk1 F12 N12 hD12 ho
    obtain ⟨x, dx, rfl, hder⟩ := ho
    obtain ⟨own2, N13, far2, sub2, _, _, un2⟩ := law_back (cel_data (o8 := o8) (o7 := o7) (o6 := o6) (o5 := o5) (o4 := o4') (o3 := o3') (o2 := o2') (o1 := o1) d8 d7 d6 d5 d4' d3' d2' d1) N12 hD12 hfar1
    replace hder := hder.un un2
    clear N12 F10 N11
    k_steps
    try any_goals with_reducible exact True.intro
    rename_i dd
    exact ⟨_, _, _, x, dx, own2, _, rfl, dd, hder, far2, sub2, by assumption, by assumption, rfl, rfl, rfl, rfl⟩
  clear hmi hmb2 hma hmh
  rintro s' ⟨h2, tk2, o5', x, dx, own2, m7, rfl, d5', hder, hfar2, hsub2, F11, N12, hmi, hmb2, hma, hmh⟩
  replace hmb1 := hsub2 _ hmb1
  replace hD1 := hsub2 _ hD1
  replace hels3 := hels3.mono hsub2
  clear F10 N11 d5 hsub2 hfar1
  refine wpAny_execs_cons ?_
  refine @cutM _ _ _ _ _ _ (fun s' => E8 fun (h2 : Heap) (tk : Nat) (x2 : Addr) (dx2 : Addr) (l2 : Addr) (vs2 : List Value) (own3 : List (Addr × Obj)) (m : Str → Option Value) => A11 (s' = { s1 with heap := h2, toks := tk }) (DerIn w own3 x2 dx2 l2 vs2 els2) (Far s1.heap.objs.size own3) ((∀ p ∈ own2, p ∈ own3)) (Fr s1.heap s1.heap.objs.size h2 m) (News s1.heap s1.heap.objs.size h2 (((s1.heap.objs.size + 1 + 1 + 1 + 1 + 1 + 1 + 1 + 1, o8) :: (s1.heap.objs.size + 1 + 1 + 1 + 1 + 1 + 1 + 1, o7) :: (s1.heap.objs.size + 1 + 1 + 1 + 1 + 1 + 1, o6) :: (s1.heap.objs.size + 1 + 1 + 1 + 1 + 1, o5') :: (s1.heap.objs.size + 1 + 1 + 1 + 1, o4') :: (s1.heap.objs.size + 1 + 1 + 1, o3') :: (s1.heap.objs.size + 1 + 1, o2') :: (s1.heap.objs.size + 1, o1) :: own3))) (m (Str.ofString "indexes") = some (.ref D)) (m (Str.ofString "branches") = some (.ref D2)) (m (Str.ofString "at") = some (.int (at' : Int) tat)) (m (Str.ofString "has_set") = some (.bool hs2)) (m (Str.ofString "again") = some (.ref x2))) ?_ ?_
  · replace F11 := frK0 [(Str.ofString "indexes", .ref D), (Str.ofString "branches", .ref D2), (Str.ofString "at", .int (at' : Int) tat), (Str.ofString "has_set", .bool hs2)] F11 (by
      intro p hp
      simp only [List.mem_cons, List.not_mem_nil, or_false] at hp
      rcases hp with rfl | rfl | rfl | rfl <;> assumption)
    clear hmi hmb2 hma hmh
    obtain ⟨td, nd, hx1, hx2, hx3, hx4⟩ := id hder
    k_steps
    rename_i q8 h8 F8q N8q l8q
    have hq8 := l8q.1
    refine ⟨kso_call (C := 847) (f := 844) (by k_units) (by k_in) (by k_inst) (by k_is) (by k_is) ?_⟩
    refine wpAny_call (str_con w els2 (by rw [hlaw.len]; omega) hlaw.ok _ _ mg mb _ _ _ _ _ _ _ _ _ _ _ _ _ _ _ _ _ _ K1 (by k_asm) KX (by k_asm) T rfl ⟨x, dx, D, us2, hder.mono fun p hp => (by k_mem), rfl⟩ ?_ ?_ ?_)
    · show callerA.depth + 1 + 8 < _
      decide
    · show callerA.units + 3 + 1 + 1 + 8 * 8 < _
      decide
    intro r tl h1 tk1 F13 N14 hD13 ho
    obtain ⟨ts, rfl⟩ := ho
    replace N14 := N14.right
    show StrBack _ (Value.str _ _) _
    obtain ⟨ht1, ht2, ht3, ht4, ht5⟩ := text_law els2 (by rw [hlaw.len]; omega) (by rw [hlaw.len]; omega) hlaw.ok
    generalize catP els2 = y at *
    unfold StrBack
    dsimp only
    clear F11 N12 hD13
    k_steps
    rename News _ _ _ _ => N17
    have N18 : News s1.heap s1.heap.objs.size _ (cel s1.heap.objs.size o8 o7 o6 o5' o4' o3' o2' o1 ++ ((q8, methodObj _ _) :: own2)) := fun p hp => N17 p (mem_sw (cells := cel s1.heap.objs.size o8 o7 o6 o5' o4' o3' o2' o1) hp)
    refine ⟨call_meth N17 (by k_mem) (fs_con w els2 _ ht3 ht4 ht5 (by rw [hlaw.len]; omega) hlaw.ok hlaw.nones hlaw.sets _ _ mg mb _ _ _ _ _ _ _ _ _ _ _ _ _ _ _ _ _ _ K1 (by k_asm) KX N18 T rfl ⟨_, rfl⟩ ?_ ?_ ?_)⟩
    · decide
    · decide
    intro r2 tl2 h2 tk2 F15 N16 hD15 ho2
    obtain ⟨x2, dx2, l2, vs2, rfl, hder2⟩ := ho2
    obtain ⟨own3, N19, far3, sub3, _, _, un3⟩ := law_back (cel_data (o8 := o8) (o7 := o7) (o6 := o6) (o5 := o5') (o4 := o4') (o3 := o3') (o2 := o2') (o1 := o1) d8 d7 d6 d5' d4' d3' d2' d1) N16 hD15 ⟨fun p hp => by
      rcases List.mem_cons.mp hp with rfl | hp
      · exact .inl hq8
      · exact hfar2.out p hp⟩
    replace hder2 := hder2.un un3
    clear N16 N18 N17
    dsimp only
    k_steps
    try any_goals with_reducible exact True.intro
    exact ⟨_, _, x2, dx2, l2, vs2, own3, _, rfl, hder2, far3, fun p hp => sub3 p (.tail _ hp), by assumption, by assumption, rfl, rfl, rfl, rfl, rfl⟩
  clear hmi hmb2 hma hmh
  rintro s' ⟨h2, tk2, x2, dx2, l2, vs2, own3, m8, rfl, hder2, hfar3, hsub3, F12, N13, hmi, hmb2, hma, hmh, hmg⟩
  clear F11
  refine wpAny_execs_cons ?_
  refine @cutM _ _ _ _ _ _ (fun s' => E7 fun (h2 : Heap) (tk : Nat) (rk : Addr) (ro : Obj) (n : Nat) (own4 : List (Addr × Obj)) (m : Str → Option Value) => A13 (s' = { s1 with heap := h2, toks := tk }) (RanksO ro hs2 brs.length n) ((rk, ro) ∈ own4) (Far s1.heap.objs.size own4) ((∀ p ∈ own3, p ∈ own4)) (Fr s1.heap s1.heap.objs.size h2 m) (News s1.heap s1.heap.objs.size h2 (((s1.heap.objs.size + 1 + 1 + 1 + 1 + 1 + 1 + 1 + 1, o8) :: (s1.heap.objs.size + 1 + 1 + 1 + 1 + 1 + 1 + 1, o7) :: (s1.heap.objs.size + 1 + 1 + 1 + 1 + 1 + 1, o6) :: (s1.heap.objs.size + 1 + 1 + 1 + 1 + 1, o5') :: (s1.heap.objs.size + 1 + 1 + 1 + 1, o4') :: (s1.heap.objs.size + 1 + 1 + 1, o3') :: (s1.heap.objs.size + 1 + 1, o2') :: (s1.heap.objs.size + 1, o1) :: own4))) (m (Str.ofString "indexes") = some (.ref D)) (m (Str.ofString "branches") = some (.ref D2)) (m (Str.ofString "at") = some (.int (at' : Int) tat)) (m (Str.ofString "has_set") = some (.bool hs2)) (m (Str.ofString "again") = some (.ref x2)) (m (Str.ofString "ranks") = some (.ref rk))) ?_ ?_
  · replace F12 := frK0 [(Str.ofString "indexes", .ref D), (Str.ofString "branches", .ref D2), (Str.ofString "at", .int (at' : Int) tat), (Str.ofString "has_set", .bool hs2), (Str.ofString "again", .ref x2)] F12 (by
      intro p hp
      simp only [List.mem_cons, List.not_mem_nil, or_false] at hp
      rcases hp with rfl | rfl | rfl | rfl | rfl <;> assumption)
    clear hmi hmb2 hma hmh hmg
    replace hmb1 := hsub3 _ hmb1
    have hwl := hws.length
    have hbl := menu_len hbrs
    cases hs2
    · k_steps
      try any_goals with_reducible exact True.intro
      rename News _ _ _ _ => N17
      have N18 : News s1.heap s1.heap.objs.size _ (cel s1.heap.objs.size o8 o7 o6 o5' o4' o3' o2' o1 ++ ((_, listOf (List.toArray [Value.int 0 _]) _) :: own3)) := fun p hp => N17 p (mem_sw (cells := cel s1.heap.objs.size o8 o7 o6 o5' o4' o3' o2' o1) hp)
      have hl8 := And.left (by assumption : @LT.lt Nat _ (s1.heap.objs.size + 1 + 1 + 1 + 1 + 1 + 1 + 1 + 1) _ ∧ _)
      refine ⟨_, _, _, _, 1, _, _, rfl, .one, .head _, ⟨fun p hp => ?_⟩, fun p hp => .tail _ hp, by assumption, N18, rfl, rfl, rfl, rfl, rfl, rfl⟩
      rcases List.mem_cons.mp hp with rfl | hp
      · exact .inl hl8
      · exact hfar3.out p hp
    · k_steps
      refine ⟨range_led (by k_asm) (by k_asm) fun rk t8 u8 v8 h8 tk8 F16 N16 l16 => ?_⟩
      have hr8 := l16 (s1.heap.objs.size + 1 + 1 + 1 + 1 + 1 + 1 + 1 + 1, o8) (by k_mem)
      k_steps
      try any_goals with_reducible exact True.intro
      refine ⟨_, _, rk, _, brs.length, (rk, rangeObj brs.length t8 u8 v8) :: own3, _, rfl, .range, .head _, ⟨fun p hp => ?_⟩, fun p hp => .tail _ hp, by assumption, fun p hp => ?_, rfl, rfl, rfl, rfl, rfl, rfl⟩
      · rcases List.mem_cons.mp hp with rfl | hp
        · exact .inl hr8
        · exact hfar3.out p hp
      · rename News _ _ _ _ => N17
        exact N17 p (mem_sw (cells := cel s1.heap.objs.size o8 o7 o6 o5' o4' o3' o2' o1) hp)
  clear hmi hmb2 hma hmh hmg
  rintro s' ⟨h2, tk2, rk, ro, nr, own4, m9, rfl, hrk, hro, hfar4, hsub4, F13, N14, hmi, hmb2, hma, hmh, hmg, hmr⟩
  clear F12 N13
  refine wpAny_execs_cons ?_
  refine @cutM _ _ _ _ _ _ (fun s' => E4 fun (h2 : Heap) (tk : Nat) (m : Str → Option Value) (nx : List (Addr × Obj)) => A4 (s' = { s1 with heap := h2, toks := tk }) (LoopJ s1.heap.objs.size o5' o4' o3' o2' o1 own4 D D2 x2 rk m nx) (Fr s1.heap s1.heap.objs.size h2 m) (News s1.heap s1.heap.objs.size h2 nx)) ?_ ?_
  · replace F13 := frK0 [(Str.ofString "indexes", .ref D), (Str.ofString "branches", .ref D2), (Str.ofString "at", .int (at' : Int) tat), (Str.ofString "has_set", .bool hs2), (Str.ofString "again", .ref x2), (Str.ofString "ranks", .ref rk)] F13 (by
      intro p hp
      simp only [List.mem_cons, List.not_mem_nil, or_false] at hp
      rcases hp with rfl | rfl | rfl | rfl | rfl | rfl <;> assumption)
    clear hmi hmb2 hma hmh hmg hmr
    refine For_invV s1.heap (by rfl) (by rfl) ?_ (fun _ => rfl)
    k_steps
    rename_i hr8 F15 N16 _
    refine ⟨rng_iter (n := 6) (fun i m nx => LoopJ s1.heap.objs.size o5' o4' o3' o2' o1 own4 D D2 x2 rk m nx) (by rfl) hr8 (by decide) rfl F15 N16 ⟨o8, o7, o6, _, _, _, own4, rfl, d8, d7, d6, hfar4, fun _ h => h, rfl, rfl, rfl, rfl⟩ ?_ ?_⟩
    · rintro i t m₁ nx h tk own hi hoff ⟨o8', o7', o6', v8, v7, v6, own5, rfl, e8, e7, e6, far5, sub5, hmi, hmb2, hmg, hmr⟩ F16 N17
      clear hr8 F15 N16
      obtain ⟨ownT, hT, farT, subT⟩ : ∃ ownT, own5 ++ own = ownT ∧ Far s1.heap.objs.size ownT ∧ ∀ p ∈ own4, p ∈ ownT := ⟨_, rfl, ⟨fun p hp => by
        rcases List.mem_append.mp hp with hp | hp
        · exact far5.out p hp
        · exact far_of (o8 := o8') (o7 := o7') (o6 := o6') (o5 := o5') (o4 := o4') (o3 := o3') (o2 := o2') (o1 := o1) fun q hq => hoff p hp q.1 (List.mem_map.mpr ⟨q, List.mem_append.mpr (.inl hq), rfl⟩)⟩, fun p hp => List.mem_append.mpr (.inl (sub5 p hp))⟩
      have ho5 : ∀ p ∈ own5, p ∈ ownT := fun p hp => hT ▸ List.mem_append.mpr (.inl hp)
      have hoi : ∀ p ∈ own, p ∈ ownT := fun p hp => hT ▸ List.mem_append.mpr (.inr hp)
      replace hD1 := subT _ (hsub4 _ (hsub3 _ hD1))
      replace hels3 : ElsIn ownT us2 els2 := hels3.mono fun p hp => subT _ (hsub4 _ (hsub3 _ hp))
      replace hder : DerIn w ownT x dx D us2 els2 := hder.mono fun p hp => subT _ (hsub4 _ (hsub3 _ hp))
      replace hder2 : DerIn w ownT x2 dx2 l2 vs2 els2 := hder2.mono fun p hp => subT _ (hsub4 _ hp)
      replace hro := subT _ hro
      clear hmb1 hfar4 hsub4 hsub3 hfar3 hfar2 hisb hws d8 d7 d6
      replace N17 : News s1.heap s1.heap.objs.size h (cel s1.heap.objs.size o8' o7' o6' o5' o4' o3' o2' o1 ++ ownT) := by
        rw [← hT, ← List.append_assoc]
        exact N17
      refine wpAny_execs_cons ?_
      refine @cutM _ _ _ _ _ _ (fun s' => E5 fun (h2 : Heap) (tk : Nat) (pk : Int) (tp : Tok) (m : Str → Option Value) => A9 (s' = { s1 with heap := h2, toks := tk }) (Fr s1.heap s1.heap.objs.size h2 m) (News s1.heap s1.heap.objs.size h2 (((s1.heap.objs.size + 1 + 1 + 1 + 1 + 1 + 1 + 1 + 1, o8') :: (s1.heap.objs.size + 1 + 1 + 1 + 1 + 1 + 1 + 1, o7') :: (s1.heap.objs.size + 1 + 1 + 1 + 1 + 1 + 1, o6') :: (s1.heap.objs.size + 1 + 1 + 1 + 1 + 1, o5') :: (s1.heap.objs.size + 1 + 1 + 1 + 1, o4') :: (s1.heap.objs.size + 1 + 1 + 1, o3') :: (s1.heap.objs.size + 1 + 1, o2') :: (s1.heap.objs.size + 1, o1) :: ownT))) (m (Str.ofString "indexes") = some (.ref D)) (m (Str.ofString "branches") = some (.ref D2)) (m (Str.ofString "again") = some (.ref x2)) (m (Str.ofString "ranks") = some (.ref rk)) (m (Str.ofString "j") = some (.int (i : Int) t)) (m (Str.ofString "pick") = some (.int pk tp))) ?_ ?_
      · have hj9 : (if Str.ofString "j" = Str.ofString "j" then some (Value.int (i : Int) t) else m₁ (Str.ofString "j")) = some (.int (i : Int) t) := if_pos rfl
        replace F16 := frK0 [(Str.ofString "indexes", .ref D), (Str.ofString "branches", .ref D2), (Str.ofString "again", .ref x2), (Str.ofString "ranks", .ref rk), (Str.ofString "j", .int (i : Int) t)] F16 (by
          intro p hp
          simp only [List.mem_cons, List.not_mem_nil, or_false] at hp
          rcases hp with rfl | rfl | rfl | rfl | rfl <;> assumption)
        clear hmi hmb2 hmg hmr
        k_steps
        try any_goals with_reducible exact True.intro
        exact ⟨_, _, _, _, _, rfl, by assumption, by assumption, rfl, rfl, rfl, rfl, rfl, rfl⟩
      clear hmi hmb2 hmg hmr
      rintro s' ⟨h2, tk2, pk, tp, m2, rfl, F17, N18, hmi, hmb2, hmg, hmr, hmj, hmp⟩
      clear F16 N17
      refine wpAny_execs_cons ?_
      refine @cutM _ _ _ _ _ _ (fun s' => E6 fun (h2 : Heap) (tk : Nat) (o6' : Obj) (sz : Nat) (tz : Tok) (m : Str → Option Value) => A11 (s' = { s1 with heap := h2, toks := tk }) (Kept (sz ≤ 5)) (o6'.data = Data.cell (some (.int (sz : Int) tz))) (Fr s1.heap s1.heap.objs.size h2 m) (News s1.heap s1.heap.objs.size h2 (((s1.heap.objs.size + 1 + 1 + 1 + 1 + 1 + 1 + 1 + 1, o8') :: (s1.heap.objs.size + 1 + 1 + 1 + 1 + 1 + 1 + 1, o7') :: (s1.heap.objs.size + 1 + 1 + 1 + 1 + 1 + 1, o6') :: (s1.heap.objs.size + 1 + 1 + 1 + 1 + 1, o5') :: (s1.heap.objs.size + 1 + 1 + 1 + 1, o4') :: (s1.heap.objs.size + 1 + 1 + 1, o3') :: (s1.heap.objs.size + 1 + 1, o2') :: (s1.heap.objs.size + 1, o1) :: ownT))) (m (Str.ofString "indexes") = some (.ref D)) (m (Str.ofString "branches") = some (.ref D2)) (m (Str.ofString "again") = some (.ref x2)) (m (Str.ofString "ranks") = some (.ref rk)) (m (Str.ofString "j") = some (.int (i : Int) t)) (m (Str.ofString "pick") = some (.int pk tp))) ?_ ?_
      · replace F17 := frK0 [(Str.ofString "indexes", .ref D), (Str.ofString "branches", .ref D2), (Str.ofString "again", .ref x2), (Str.ofString "ranks", .ref rk), (Str.ofString "j", .int (i : Int) t), (Str.ofString "pick", .int pk tp)] F17 (by
          intro p hp
          simp only [List.mem_cons, List.not_mem_nil, or_false] at hp
          rcases hp with rfl | rfl | rfl | rfl | rfl | rfl <;> assumption)
        clear hmi hmb2 hmg hmr hmj hmp
        k_steps
        try any_goals with_reducible exact True.intro
        · rename_i dd
          exact ⟨_, _, _, c, _, _, rfl, ⟨by omega⟩, dd, by assumption, by assumption, rfl, rfl, rfl, rfl, rfl, rfl⟩
        · rename_i dd
          exact ⟨_, _, _, c + 1, _, _, rfl, ⟨by omega⟩, dd, by assumption, by assumption, rfl, rfl, rfl, rfl, rfl, rfl⟩
        · rename_i dd
          exact ⟨_, _, _, c - 1, _, _, rfl, ⟨by omega⟩, dd.trans (congrArg (fun z => Data.cell (some (Value.int z _))) (by omega)), by assumption, by assumption, rfl, rfl, rfl, rfl, rfl, rfl⟩
      clear hmi hmb2 hmg hmr hmj hmp
      rintro s' ⟨h2, tk2, o6', sz, tz, m3, rfl, hsz, d6', F18, N19, hmi, hmb2, hmg, hmr, hmj, hmp⟩
      clear F17 N18
      refine wpAny_execs_cons ?_
      refine @cutM _ _ _ _ _ _ (fun s' => E6 fun (h2 : Heap) (tk : Nat) (o7' : Obj) (P : Addr) (n : Nat) (m : Str → Option Value) => A11 (s' = { s1 with heap := h2, toks := tk }) (o7'.data = Data.cell (some (.ref P))) (Kept (@LT.lt Nat _ (s1.heap.objs.size + 8) P ∨ @LT.lt Nat _ P (s1.heap.objs.size + 1))) ((∀ p ∈ ownT, p.1 ≠ P)) (Fr s1.heap s1.heap.objs.size h2 m) (News s1.heap s1.heap.objs.size h2 ((P, listOf (List.toArray []) n) :: ((s1.heap.objs.size + 1 + 1 + 1 + 1 + 1 + 1 + 1 + 1, o8') :: (s1.heap.objs.size + 1 + 1 + 1 + 1 + 1 + 1 + 1, o7') :: (s1.heap.objs.size + 1 + 1 + 1 + 1 + 1 + 1, o6') :: (s1.heap.objs.size + 1 + 1 + 1 + 1 + 1, o5') :: (s1.heap.objs.size + 1 + 1 + 1 + 1, o4') :: (s1.heap.objs.size + 1 + 1 + 1, o3') :: (s1.heap.objs.size + 1 + 1, o2') :: (s1.heap.objs.size + 1, o1) :: ownT))) (m (Str.ofString "indexes") = some (.ref D)) (m (Str.ofString "branches") = some (.ref D2)) (m (Str.ofString "again") = some (.ref x2)) (m (Str.ofString "ranks") = some (.ref rk)) (m (Str.ofString "j") = some (.int (i : Int) t))) ?_ ?_
      · replace F18 := frK0 [(Str.ofString "indexes", .ref D), (Str.ofString "branches", .ref D2), (Str.ofString "again", .ref x2), (Str.ofString "ranks", .ref rk), (Str.ofString "j", .int (i : Int) t), (Str.ofString "pick", .int pk tp)] F18 (by
          intro p hp
          simp only [List.mem_cons, List.not_mem_nil, or_false] at hp
          rcases hp with rfl | rfl | rfl | rfl | rfl | rfl <;> assumption)
        clear hmi hmb2 hmg hmr hmj hmp
        k_steps
        try any_goals with_reducible exact True.intro
        rename_i l1 h9 o9 F9 N9 dd
        obtain ⟨l8, _, _, _, _, _, _, _, lo⟩ := l1
        exact ⟨_, _, o9, _, _, _, rfl, dd, ⟨.inl l8⟩, fun p hp => Nat.ne_of_lt (allLt_mem lo p hp), by assumption, by assumption, rfl, rfl, rfl, rfl, rfl⟩
      clear hmi hmb2 hmg hmr hmj hmp
      rintro s' ⟨h2, tk2, o7', P, nP, m4, rfl, d7', hPL, hPo, F19, N20, hmi, hmb2, hmg, hmr, hmj⟩
      clear F18 N19
      refine wpAny_execs_cons ?_
      refine @cutM _ _ _ _ _ _ (fun s' => E6 fun (h2 : Heap) (tk : Nat) (us : List Value) (ps : List Int) (n : Nat) (m : Str → Option Value) => A11 (s' = { s1 with heap := h2, toks := tk }) (us.length = sz) (IntsAre us ps) ((∀ p ∈ ps, 0 ≤ p ∧ p < 6)) (Fr s1.heap s1.heap.objs.size h2 m) (News s1.heap s1.heap.objs.size h2 ((P, listOf (List.toArray us) n) :: ((s1.heap.objs.size + 1 + 1 + 1 + 1 + 1 + 1 + 1 + 1, o8') :: (s1.heap.objs.size + 1 + 1 + 1 + 1 + 1 + 1 + 1, o7') :: (s1.heap.objs.size + 1 + 1 + 1 + 1 + 1 + 1, o6') :: (s1.heap.objs.size + 1 + 1 + 1 + 1 + 1, o5') :: (s1.heap.objs.size + 1 + 1 + 1 + 1, o4') :: (s1.heap.objs.size + 1 + 1 + 1, o3') :: (s1.heap.objs.size + 1 + 1, o2') :: (s1.heap.objs.size + 1, o1) :: ownT))) (m (Str.ofString "indexes") = some (.ref D)) (m (Str.ofString "branches") = some (.ref D2)) (m (Str.ofString "again") = some (.ref x2)) (m (Str.ofString "ranks") = some (.ref rk)) (m (Str.ofString "j") = some (.int (i : Int) t))) ?_ ?_
      · replace F19 := frK0 [(Str.ofString "indexes", .ref D), (Str.ofString "branches", .ref D2), (Str.ofString "again", .ref x2), (Str.ofString "ranks", .ref rk), (Str.ofString "j", .int (i : Int) t)] F19 (by
          intro p hp
          simp only [List.mem_cons, List.not_mem_nil, or_false] at hp
          rcases hp with rfl | rfl | rfl | rfl | rfl <;> assumption)
        clear hmi hmb2 hmg hmr hmj
        refine For_invV s1.heap (by rfl) (by rfl) ?_ (fun _ => rfl)
        k_steps
        rename_i hr8 F15 N16 _
        refine ⟨rng_iter (n := sz) (fun q9 m nx => ∃ us ps n, nx = ((P, listOf (List.toArray us) n) :: ((s1.heap.objs.size + 1 + 1 + 1 + 1 + 1 + 1 + 1 + 1, o8') :: (s1.heap.objs.size + 1 + 1 + 1 + 1 + 1 + 1 + 1, o7') :: (s1.heap.objs.size + 1 + 1 + 1 + 1 + 1 + 1, o6') :: (s1.heap.objs.size + 1 + 1 + 1 + 1 + 1, o5') :: (s1.heap.objs.size + 1 + 1 + 1 + 1, o4') :: (s1.heap.objs.size + 1 + 1 + 1, o3') :: (s1.heap.objs.size + 1 + 1, o2') :: (s1.heap.objs.size + 1, o1) :: ownT)) ∧ us.length = q9 ∧ IntsAre us ps ∧ (∀ p ∈ ps, 0 ≤ p ∧ p < 6) ∧ m (Str.ofString "indexes") = some (.ref D) ∧ m (Str.ofString "branches") = some (.ref D2) ∧ m (Str.ofString "again") = some (.ref x2) ∧ m (Str.ofString "ranks") = some (.ref rk) ∧ m (Str.ofString "j") = some (.int (i : Int) t)) (by rfl) hr8 (by
          have := hsz.out
          have : sz = 0 ∨ sz = 1 ∨ sz = 2 ∨ sz = 3 ∨ sz = 4 ∨ sz = 5 := by omega
          rcases this with rfl | rfl | rfl | rfl | rfl | rfl <;> decide) (by
          have := hsz.out
          have : sz = 0 ∨ sz = 1 ∨ sz = 2 ∨ sz = 3 ∨ sz = 4 ∨ sz = 5 := by omega
          rcases this with rfl | rfl | rfl | rfl | rfl | rfl <;> rfl) F15 N16 ⟨[], [], nP, rfl, rfl, .nil, (fun _ h => nomatch h), rfl, rfl, rfl, rfl, rfl⟩ ?_ ?_⟩
        · rintro kk tk9 m₂ nx h tk ow hkk hoff9 ⟨us, ps, n, rfl, hul, hup, hpb, hmi, hmb2, hmg, hmr, hmj⟩ F20 N21
          clear hr8 F15 N16
          have hQk : Quick := ⟨⟩
          have hkk5 : kk < 5 := by have := hsz.out; omega
          have hk9 : (if Str.ofString "k" = Str.ofString "k" then some (Value.int (kk : Int) tk9) else m₂ (Str.ofString "k")) = some (.int (kk : Int) tk9) := if_pos rfl
          replace F20 := frK0 [(Str.ofString "indexes", .ref D), (Str.ofString "branches", .ref D2), (Str.ofString "again", .ref x2), (Str.ofString "ranks", .ref rk), (Str.ofString "j", .int (i : Int) t), (Str.ofString "k", .int (kk : Int) tk9)] F20 (by
            intro p hp
            simp only [List.mem_cons, List.not_mem_nil, or_false] at hp
            rcases hp with rfl | rfl | rfl | rfl | rfl | rfl <;> assumption)
          clear hmi hmb2 hmg hmr hmj
          replace N21 : News s1.heap s1.heap.objs.size h ((P, listOf (List.toArray us) n) :: ((s1.heap.objs.size + 1 + 1 + 1 + 1 + 1 + 1 + 1 + 1, o8') :: (s1.heap.objs.size + 1 + 1 + 1 + 1 + 1 + 1 + 1, o7') :: (s1.heap.objs.size + 1 + 1 + 1 + 1 + 1 + 1, o6') :: (s1.heap.objs.size + 1 + 1 + 1 + 1 + 1, o5') :: (s1.heap.objs.size + 1 + 1 + 1 + 1, o4') :: (s1.heap.objs.size + 1 + 1 + 1, o3') :: (s1.heap.objs.size + 1 + 1, o2') :: (s1.heap.objs.size + 1, o1) :: (ownT ++ ow))) := N21
          refine wpAny_execs_cons ?_
          refine @cutM _ _ _ _ _ _ (fun s' => E5 fun (h2 : Heap) (tk : Nat) (nb : Int) (tn : Tok) (m : Str → Option Value) => A10 (s' = { s1 with heap := h2, toks := tk }) (Fr s1.heap s1.heap.objs.size h2 m) (News s1.heap s1.heap.objs.size h2 ((P, listOf (List.toArray us) n) :: ((s1.heap.objs.size + 1 + 1 + 1 + 1 + 1 + 1 + 1 + 1, o8') :: (s1.heap.objs.size + 1 + 1 + 1 + 1 + 1 + 1 + 1, o7') :: (s1.heap.objs.size + 1 + 1 + 1 + 1 + 1 + 1, o6') :: (s1.heap.objs.size + 1 + 1 + 1 + 1 + 1, o5') :: (s1.heap.objs.size + 1 + 1 + 1 + 1, o4') :: (s1.heap.objs.size + 1 + 1 + 1, o3') :: (s1.heap.objs.size + 1 + 1, o2') :: (s1.heap.objs.size + 1, o1) :: (ownT ++ ow)))) (m (Str.ofString "indexes") = some (.ref D)) (m (Str.ofString "branches") = some (.ref D2)) (m (Str.ofString "again") = some (.ref x2)) (m (Str.ofString "ranks") = some (.ref rk)) (m (Str.ofString "j") = some (.int (i : Int) t)) (m (Str.ofString "k") = some (.int (kk : Int) tk9)) (m (Str.ofString "number") = some (.int nb tn))) ?_ ?_
          · k_steps
            try any_goals with_reducible exact True.intro
            exact ⟨_, _, _, _, _, rfl, by assumption, by assumption, rfl, rfl, rfl, rfl, rfl, rfl, rfl⟩
          rintro s' ⟨h2, tk2, nb, tn, m5, rfl, F21, N22, hmi, hmb2, hmg, hmr, hmj, hmk, hmn⟩
          clear F20 N21 hk9
          replace F21 := frK0 [(Str.ofString "indexes", .ref D), (Str.ofString "branches", .ref D2), (Str.ofString "again", .ref x2), (Str.ofString "ranks", .ref rk), (Str.ofString "j", .int (i : Int) t), (Str.ofString "k", .int (kk : Int) tk9), (Str.ofString "number", .int nb tn)] F21 (by
            intro p hp
            simp only [List.mem_cons, List.not_mem_nil, or_false] at hp
            rcases hp with rfl | rfl | rfl | rfl | rfl | rfl | rfl <;> assumption)
          clear hmi hmb2 hmg hmr hmj hmk hmn
          refine wpAny_execs_cons ?_
          refine @cutM _ _ _ _ _ _ (fun s' => E5 fun (h2 : Heap) (tk : Nat) (kv : Value) (e : El) (m : Str → Option Value) => A13 (s' = { s1 with heap := h2, toks := tk }) (ElIn ownT kv e) (e.ok) (Fr s1.heap s1.heap.objs.size h2 m) (News s1.heap s1.heap.objs.size h2 ((P, listOf (List.toArray us) n) :: ((s1.heap.objs.size + 1 + 1 + 1 + 1 + 1 + 1 + 1 + 1, o8') :: (s1.heap.objs.size + 1 + 1 + 1 + 1 + 1 + 1 + 1, o7') :: (s1.heap.objs.size + 1 + 1 + 1 + 1 + 1 + 1, o6') :: (s1.heap.objs.size + 1 + 1 + 1 + 1 + 1, o5') :: (s1.heap.objs.size + 1 + 1 + 1 + 1, o4') :: (s1.heap.objs.size + 1 + 1 + 1, o3') :: (s1.heap.objs.size + 1 + 1, o2') :: (s1.heap.objs.size + 1, o1) :: (ownT ++ ow)))) (m (Str.ofString "indexes") = some (.ref D)) (m (Str.ofString "branches") = some (.ref D2)) (m (Str.ofString "again") = some (.ref x2)) (m (Str.ofString "ranks") = some (.ref rk)) (m (Str.ofString "j") = some (.int (i : Int) t)) (m (Str.ofString "k") = some (.int (kk : Int) tk9)) (m (Str.ofString "number") = some (.int nb tn)) (m (Str.ofString "known") = some (kv))) ?_ ?_
          · have hul2 := hels3.length
            have hel2 := hlaw.len
            k_steps
            try any_goals with_reducible exact True.intro
            · have hkc : kk < us2.length := by omega
              obtain ⟨e, he, hin⟩ := hels3.get (List.getElem?_eq_getElem hkc)
              refine ⟨sub_item ⟨_, (N22 (D, listOf us2.toArray nD2) (by k_mem)).1, rfl, _, rfl⟩ (by omega) (by omega) (List.getElem?_eq_getElem hkc) ?_⟩
              generalize us2[kk] = kv at *
              k_steps
              exact ⟨_, _, kv, e, _, rfl, hin, hlaw.ok _ (List.mem_of_getElem? he), by assumption, by assumption, rfl, rfl, rfl, rfl, rfl, rfl, rfl, rfl⟩
            · exact ⟨_, _, .none, .none, _, rfl, .none, True.intro, by assumption, by assumption, rfl, rfl, rfl, rfl, rfl, rfl, rfl, rfl⟩
            · exact ⟨_, _, .none, .none, _, rfl, .none, True.intro, by assumption, by assumption, rfl, rfl, rfl, rfl, rfl, rfl, rfl, rfl⟩
          rintro s' ⟨h2, tk2, kv, e, m6, rfl, hkv, heo, F22, N23, hmi, hmb2, hmg, hmr, hmj, hmk, hmn, hmw⟩
          clear F21 N22
          replace F22 := frK0 [(Str.ofString "indexes", .ref D), (Str.ofString "branches", .ref D2), (Str.ofString "again", .ref x2), (Str.ofString "ranks", .ref rk), (Str.ofString "j", .int (i : Int) t), (Str.ofString "k", .int (kk : Int) tk9), (Str.ofString "number", .int nb tn), (Str.ofString "known", kv)] F22 (by
            intro p hp
            simp only [List.mem_cons, List.not_mem_nil, or_false] at hp
            rcases hp with rfl | rfl | rfl | rfl | rfl | rfl | rfl | rfl <;> assumption)
          clear hmi hmb2 hmg hmr hmj hmk hmn hmw
          have hPx : ∀ p ∈ ((s1.heap.objs.size + 1 + 1 + 1 + 1 + 1 + 1 + 1 + 1, o8') :: (s1.heap.objs.size + 1 + 1 + 1 + 1 + 1 + 1 + 1, o7') :: (s1.heap.objs.size + 1 + 1 + 1 + 1 + 1 + 1, o6') :: (s1.heap.objs.size + 1 + 1 + 1 + 1 + 1, o5') :: (s1.heap.objs.size + 1 + 1 + 1 + 1, o4') :: (s1.heap.objs.size + 1 + 1 + 1, o3') :: (s1.heap.objs.size + 1 + 1, o2') :: (s1.heap.objs.size + 1, o1) :: (ownT ++ ow)), p.1 ≠ P := far_cells (o8 := o8') (o7 := o7') (o6 := o6') (o5 := o5') (o4 := o4') (o3 := o3') (o2 := o2') (o1 := o1) (rest := ownT ++ ow) hPL.out fun p hp => by
            rcases List.mem_append.mp hp with hp | hp
            · exact hPo p hp
            · exact hoff9 p hp P (List.mem_cons_self ..)
          have fin : ∀ (q : Int) (tq : Tok) (h7 : Heap) (tk7 : Nat) (m7 : Str → Option Value), 0 ≤ q → q < 6 → Fr s1.heap s1.heap.objs.size h7 m7 → News s1.heap s1.heap.objs.size h7 ((P, listOf (List.toArray (us ++ [.int q tq])) (n + 1)) :: ((s1.heap.objs.size + 1 + 1 + 1 + 1 + 1 + 1 + 1 + 1, o8') :: (s1.heap.objs.size + 1 + 1 + 1 + 1 + 1 + 1 + 1, o7') :: (s1.heap.objs.size + 1 + 1 + 1 + 1 + 1 + 1, o6') :: (s1.heap.objs.size + 1 + 1 + 1 + 1 + 1, o5') :: (s1.heap.objs.size + 1 + 1 + 1 + 1, o4') :: (s1.heap.objs.size + 1 + 1 + 1, o3') :: (s1.heap.objs.size + 1 + 1, o2') :: (s1.heap.objs.size + 1, o1) :: (ownT ++ ow))) → m7 (Str.ofString "indexes") = some (.ref D) ∧ m7 (Str.ofString "branches") = some (.ref D2) ∧ m7 (Str.ofString "again") = some (.ref x2) ∧ m7 (Str.ofString "ranks") = some (.ref rk) ∧ m7 (Str.ofString "j") = some (.int (i : Int) t) →
              InvEndG s1.heap s1.heap.objs.size (fun m nx => ∃ us ps n, nx = ((P, listOf (List.toArray us) n) :: ((s1.heap.objs.size + 1 + 1 + 1 + 1 + 1 + 1 + 1 + 1, o8') :: (s1.heap.objs.size + 1 + 1 + 1 + 1 + 1 + 1 + 1, o7') :: (s1.heap.objs.size + 1 + 1 + 1 + 1 + 1 + 1, o6') :: (s1.heap.objs.size + 1 + 1 + 1 + 1 + 1, o5') :: (s1.heap.objs.size + 1 + 1 + 1 + 1, o4') :: (s1.heap.objs.size + 1 + 1 + 1, o3') :: (s1.heap.objs.size + 1 + 1, o2') :: (s1.heap.objs.size + 1, o1) :: ownT)) ∧ us.length = kk + 1 ∧ IntsAre us ps ∧ (∀ p ∈ ps, 0 ≤ p ∧ p < 6) ∧ m (Str.ofString "indexes") = some (.ref D) ∧ m (Str.ofString "branches") = some (.ref D2) ∧ m (Str.ofString "again") = some (.ref x2) ∧ m (Str.ofString "ranks") = some (.ref rk) ∧ m (Str.ofString "j") = some (.int (i : Int) t)) ow { s1 with heap := h, toks := tk } { s1 with heap := h7, toks := tk7 } := by
            intro q tq h7 tk7 m7 q0 q6 F23 N24 hm
            refine InvEndG.intro (nx := (P, listOf (List.toArray (us ++ [.int q tq])) (n + 1)) :: ((s1.heap.objs.size + 1 + 1 + 1 + 1 + 1 + 1 + 1 + 1, o8') :: (s1.heap.objs.size + 1 + 1 + 1 + 1 + 1 + 1 + 1, o7') :: (s1.heap.objs.size + 1 + 1 + 1 + 1 + 1 + 1, o6') :: (s1.heap.objs.size + 1 + 1 + 1 + 1 + 1, o5') :: (s1.heap.objs.size + 1 + 1 + 1 + 1, o4') :: (s1.heap.objs.size + 1 + 1 + 1, o3') :: (s1.heap.objs.size + 1 + 1, o2') :: (s1.heap.objs.size + 1, o1) :: ownT)) F23 N24 ⟨us ++ [.int q tq], ps ++ [q], n + 1, rfl, by simp [hul], hup.append (.cons _ _ .nil), ?_, hm⟩ hoff9 (fun p hp => ?_) (fun p hp => by k_mem)
            · intro j hj
              rcases List.mem_append.mp hj with hj | hj
              · exact hpb j hj
              · rw [List.mem_singleton.mp hj]
                exact ⟨q0, q6⟩
            · simp only [List.mem_cons, List.mem_append] at hp ⊢
              rcases hp with hp | hp | hp | hp | hp | hp | hp | hp | hp | hp <;> simp only [hp, true_or, or_true]
          have mod6 : ∀ z : Int, 0 ≤ z.fmod 6 ∧ z.fmod 6 < 6 := fun z => ⟨Int.fmod_nonneg_of_pos _ (by decide), Int.fmod_lt_of_pos _ (by decide)⟩
          cases hkv with
          | none =>
            k_steps
            refine ⟨append_led (by k_asm) (by k_asm) hPx (by omega) fun h7 F23 N24 => ?_⟩
            k_steps
            exact fin _ _ _ _ _ (mod6 _).1 (mod6 _).2 F23 N24 ⟨rfl, rfl, rfl, rfl, rfl⟩
          | int q tq =>
            k_steps
            refine ⟨append_led (by k_asm) (by k_asm) hPx (by omega) fun h7 F23 N24 => ?_⟩
            k_steps
            exact fin _ _ _ _ _ heo.1 (Int.lt_trans heo.2 (by decide)) F23 N24 ⟨rfl, rfl, rfl, rfl, rfl⟩
          | @set aq wq nq xq hq1 hq2 =>
            have hml := menu_len heo
            have hwl := hq2.length
            k_steps
            have z0 := Int.fmod_nonneg_of_pos (nb.fdiv 4) (b := (xq.length : Int)) (by omega)
            have z1 := Int.fmod_lt_of_pos (nb.fdiv 4) (b := (xq.length : Int)) (by omega)
            obtain ⟨q, tq, hx, hxq⟩ := ints_at hq2 z0 (by omega)
            refine ⟨sub_item ⟨_, (N23 (aq, listOf wq.toArray nq) (by k_mem)).1, rfl, _, rfl⟩ z0 (by omega) hx ?_⟩
            k_steps
            refine ⟨append_led (by k_asm) (by k_asm) hPx (by omega) fun h7 F23 N24 => ?_⟩
            k_steps
            have hq6 := menu_small heo q (List.mem_of_getElem? hxq)
            exact fin _ _ _ _ _ hq6.1 hq6.2 F23 N24 ⟨rfl, rfl, rfl, rfl, rfl⟩
        · rintro m₁ nx h tk ⟨us, ps, n, rfl, hul, hup, hpb, hmi, hmb2, hmg, hmr, hmj⟩ F20 N21
          exact ⟨rfl, _, _, us, ps, n, _, rfl, hul, hup, hpb, F20, N21, hmi, hmb2, hmg, hmr, hmj⟩
      clear hmi hmb2 hmg hmr hmj
      rintro s' ⟨h2, tk2, us, ps, nQ, m5, rfl, hul, hup, hpb, F20, N21, hmi, hmb2, hmg, hmr, hmj⟩
      obtain ⟨ownP, hPeq, farP, hPm, subP⟩ : ∃ ownP, (P, listOf (List.toArray us) nQ) :: ownT = ownP ∧ Far s1.heap.objs.size ownP ∧ (P, listOf (List.toArray us) nQ) ∈ ownP ∧ ∀ p ∈ ownT, p ∈ ownP := ⟨_, rfl, ⟨fun p hp => by
        rcases List.mem_cons.mp hp with rfl | hp
        · exact hPL.out
        · exact farT.out p hp⟩, .head _, fun _ h => .tail _ h⟩
      replace N21 : News s1.heap s1.heap.objs.size h2 (((s1.heap.objs.size + 1 + 1 + 1 + 1 + 1 + 1 + 1 + 1, o8') :: (s1.heap.objs.size + 1 + 1 + 1 + 1 + 1 + 1 + 1, o7') :: (s1.heap.objs.size + 1 + 1 + 1 + 1 + 1 + 1, o6') :: (s1.heap.objs.size + 1 + 1 + 1 + 1 + 1, o5') :: (s1.heap.objs.size + 1 + 1 + 1 + 1, o4') :: (s1.heap.objs.size + 1 + 1 + 1, o3') :: (s1.heap.objs.size + 1 + 1, o2') :: (s1.heap.objs.size + 1, o1) :: ownP)) := fun p hp => N21 p (by
        rw [← hPeq] at hp
        exact mem_sw (cells := cel s1.heap.objs.size o8' o7' o6' o5' o4' o3' o2' o1) hp)
      replace hD1 := subP _ hD1
      replace hels3 := hels3.mono subP
      replace hder := hder.mono subP
      replace hder2 := hder2.mono subP
      replace hro := subP _ hro
      replace ho5 : ∀ p ∈ own5, p ∈ ownP := fun p hp => subP p (ho5 p hp)
      replace hoi : ∀ p ∈ own, p ∈ ownP := fun p hp => subP p (hoi p hp)
      clear F19 N20 hPL hPo hPeq farT subP subT
      refine wpAny_execs_cons ?_
      refine @cutM _ _ _ _ _ _ (fun s' => E6 fun (h2 : Heap) (tk : Nat) (M : Addr) (mv : List Value) (ownM : List (Addr × Obj)) (m : Str → Option Value) => A13 (s' = { s1 with heap := h2, toks := tk }) (MadeL els2 c wd ps nr mv) ((M, LCg.lst mv) ∈ ownM) (Far s1.heap.objs.size ownM) ((∀ p ∈ ownP, p ∈ ownM)) (Fr s1.heap s1.heap.objs.size h2 m) (News s1.heap s1.heap.objs.size h2 (((s1.heap.objs.size + 1 + 1 + 1 + 1 + 1 + 1 + 1 + 1, o8') :: (s1.heap.objs.size + 1 + 1 + 1 + 1 + 1 + 1 + 1, o7') :: (s1.heap.objs.size + 1 + 1 + 1 + 1 + 1 + 1, o6') :: (s1.heap.objs.size + 1 + 1 + 1 + 1 + 1, o5') :: (s1.heap.objs.size + 1 + 1 + 1 + 1, o4') :: (s1.heap.objs.size + 1 + 1 + 1, o3') :: (s1.heap.objs.size + 1 + 1, o2') :: (s1.heap.objs.size + 1, o1) :: ownM))) (m (Str.ofString "indexes") = some (.ref D)) (m (Str.ofString "branches") = some (.ref D2)) (m (Str.ofString "again") = some (.ref x2)) (m (Str.ofString "ranks") = some (.ref rk)) (m (Str.ofString "j") = some (.int (i : Int) t)) (m (Str.ofString "made") = some (.ref M))) ?_ ?_
      · have hQk : Quick := ⟨⟩
        replace F20 := frK0 [(Str.ofString "indexes", .ref D), (Str.ofString "branches", .ref D2), (Str.ofString "again", .ref x2), (Str.ofString "ranks", .ref rk), (Str.ofString "j", .int (i : Int) t)] F20 (by
          intro p hp
          simp only [List.mem_cons, List.not_mem_nil, or_false] at hp
          rcases hp with rfl | rfl | rfl | rfl | rfl <;> assumption)
        clear hmi hmb2 hmg hmr hmj
        refine LCt.Assign_ListComp_T (F₀ := by k_asm) (by rfl) (by with_unfolding_all rfl) (by with_unfolding_all rfl) (by decide) (by rfl) (by decide) (by rfl) (by rfl) (by rfl) ?_
        k_steps
        have hnr := hrk.num
        have hnr3 : nr ≤ 3 := by rw [hnr]; exact nR_le hbrs
        refine ⟨ranks_compT (by k_mem) hrk hnr3 (by rfl) F20 N21 (fun i ys nw => ∃ ownX, nw = ((s1.heap.objs.size + 1 + 1 + 1 + 1 + 1 + 1 + 1 + 1, o8') :: (s1.heap.objs.size + 1 + 1 + 1 + 1 + 1 + 1 + 1, o7') :: (s1.heap.objs.size + 1 + 1 + 1 + 1 + 1 + 1, o6') :: (s1.heap.objs.size + 1 + 1 + 1 + 1 + 1, o5') :: (s1.heap.objs.size + 1 + 1 + 1 + 1, o4') :: (s1.heap.objs.size + 1 + 1 + 1, o3') :: (s1.heap.objs.size + 1 + 1, o2') :: (s1.heap.objs.size + 1, o1) :: ownX) ∧ Far s1.heap.objs.size ownX ∧ (∀ p ∈ ownP, p ∈ ownX) ∧ MadeL els2 c wd ps i ys) ⟨ownP, rfl, farP, fun _ h => h, .zero⟩ ?_ ?_⟩
        · rintro ii ys nw tr I oI C oC D' m₂ h tk E' hii hro2 ⟨ownX, rfl, farX, subX, hmade⟩ hC hx F22 N23 off ne
          clear F20 N21
          have off3 := off
          clear off ne
          obtain ⟨td, nd, hx1, hx2, hx3, hx4⟩ := hder.mono subX
          have hPx := subX _ hPm
          have hel2 := hlaw.len
          have hpl := hup.length
          have cend : ∀ (ys' : List Value) (h7 : Heap) (tl : List (Addr × Obj)), News s1.heap s1.heap.objs.size h7 (tl ++ ((I, oI) :: (C, oC) :: (D', LCg.lst ys) :: ((s1.heap.objs.size + 1 + 1 + 1 + 1 + 1 + 1 + 1 + 1, o8') :: (s1.heap.objs.size + 1 + 1 + 1 + 1 + 1 + 1 + 1, o7') :: (s1.heap.objs.size + 1 + 1 + 1 + 1 + 1 + 1, o6') :: (s1.heap.objs.size + 1 + 1 + 1 + 1 + 1, o5') :: (s1.heap.objs.size + 1 + 1 + 1 + 1, o4') :: (s1.heap.objs.size + 1 + 1 + 1, o3') :: (s1.heap.objs.size + 1 + 1, o2') :: (s1.heap.objs.size + 1, o1) :: ownX))) → (∀ p ∈ tl, ∀ q ∈ ((I, oI) :: (C, oC) :: (D', LCg.lst ys) :: ((s1.heap.objs.size + 1 + 1 + 1 + 1 + 1 + 1 + 1 + 1, o8') :: (s1.heap.objs.size + 1 + 1 + 1 + 1 + 1 + 1 + 1, o7') :: (s1.heap.objs.size + 1 + 1 + 1 + 1 + 1 + 1, o6') :: (s1.heap.objs.size + 1 + 1 + 1 + 1 + 1, o5') :: (s1.heap.objs.size + 1 + 1 + 1 + 1, o4') :: (s1.heap.objs.size + 1 + 1 + 1, o3') :: (s1.heap.objs.size + 1 + 1, o2') :: (s1.heap.objs.size + 1, o1) :: ownX)), p.1 ≠ q.1) → MadeL els2 c wd ps (ii + 1) ys' →
              ∃ nw, News s1.heap s1.heap.objs.size h7 ((I, oI) :: (C, oC) :: (D', LCg.lst ys) :: nw) ∧ LCg.Off3 I C D' nw ∧ (rk, ro) ∈ nw ∧ ∃ ownX, nw = ((s1.heap.objs.size + 1 + 1 + 1 + 1 + 1 + 1 + 1 + 1, o8') :: (s1.heap.objs.size + 1 + 1 + 1 + 1 + 1 + 1 + 1, o7') :: (s1.heap.objs.size + 1 + 1 + 1 + 1 + 1 + 1, o6') :: (s1.heap.objs.size + 1 + 1 + 1 + 1 + 1, o5') :: (s1.heap.objs.size + 1 + 1 + 1 + 1, o4') :: (s1.heap.objs.size + 1 + 1 + 1, o3') :: (s1.heap.objs.size + 1 + 1, o2') :: (s1.heap.objs.size + 1, o1) :: ownX) ∧ Far s1.heap.objs.size ownX ∧ (∀ p ∈ ownP, p ∈ ownX) ∧ MadeL els2 c wd ps (ii + 1) ys' := by
            intro ys' h7 tl N7 hD7 hm7
            obtain ⟨own2, N8, off8, far8, sub8⟩ := comp_back N7 hD7 off3 farX
            exact ⟨_, N8, off8, List.mem_append.mpr (.inr (sub8 _ (subX _ hro))), own2, rfl, far8, fun p hp => sub8 p (subX p hp), hm7⟩
          k_steps
          · have hw : wd < c := by omega
            have hsc : ps.length = c := by omega
            obtain ⟨q, tq, hq1, hq2⟩ := ints_at hup (z := (wd : Int)) (by omega) (by omega)
            refine ⟨sub_item ⟨_, (N23 (P, listOf us.toArray nQ) (by k_mem)).1, rfl, _, rfl⟩ (by omega) (by omega) hq1 ?_⟩
            have hoi9 : OI (.int q tq) (wIdx c wd ps) := by
              rw [wIdx, if_pos hw, List.getD_eq_getElem?_getD, show ps[wd]? = some q from hq2]
              exact .int _ _
            k_steps
            refine ⟨wpAny_call (fill_con w els2 (wIdx c wd ps) (some (ii : Int)) (by omega) (wIdx_small hpb) (law_brOk hlaw hbrs (by omega)) _ _ mg mb _ _ _ _ _ _ _ _ _ _ _ _ _ _ _ _ _ _ K1 (by k_asm) KX (by k_asm) T rfl ⟨x, dx, D, us2, _, _, ⟨td, nd, by k_mem, by k_mem, by k_mem, hx4.mono fun p hp => by k_mem⟩, hoi9, .int _ _, .inl rfl⟩ ?_ ?_ ?_)⟩
            · decide
            · decide
            intro r tl h1 tk1 F24 N25 hD25 ho
            obtain ⟨Df, uf, nf, rfl, hf1, hf2⟩ := ho
            replace hf2 : ElsIn (tl ++ ((I, oI) :: (C, oC) :: (D', LCg.lst ys) :: ((s1.heap.objs.size + 1 + 1 + 1 + 1 + 1 + 1 + 1 + 1, o8') :: (s1.heap.objs.size + 1 + 1 + 1 + 1 + 1 + 1 + 1, o7') :: (s1.heap.objs.size + 1 + 1 + 1 + 1 + 1 + 1, o6') :: (s1.heap.objs.size + 1 + 1 + 1 + 1 + 1, o5') :: (s1.heap.objs.size + 1 + 1 + 1 + 1, o4') :: (s1.heap.objs.size + 1 + 1 + 1, o3') :: (s1.heap.objs.size + 1 + 1, o2') :: (s1.heap.objs.size + 1, o1) :: ownX))) uf (els2.map (fillE (wIdx c wd ps) ii)) := hf2
            k_steps
            refine ⟨eq_path N25 (fun p h => h) hf1 (by k_mem) hf2 hup (by ke_room) ?_⟩
            k_steps
            · rename_i hb
              obtain ⟨nw, N8, off8, hro8, hJ⟩ := cend (ys ++ [.int (ii : Int) tr]) h1 tl N25 hD25 (hmade.yes hlaw hbrs hnr hii ⟨hsc, (eqv_made _ _).mp hb⟩)
              refine ⟨?_⟩
              unfold TEnd
              rw [if_pos rfl]
              k_steps
              exact ⟨⟨_, _, nw, rfl, by assumption, N8, off8, hro8, hJ⟩⟩
            · rename_i hb
              obtain ⟨nw, N8, off8, hro8, hJ⟩ := cend ys h1 tl N25 hD25 (hmade.no fun m => by rw [(eqv_made _ _).mpr m.2] at hb; cases hb)
              refine ⟨?_⟩
              unfold TEnd
              rw [if_neg Bool.false_ne_true]
              exact ⟨_, _, nw, rfl, by assumption, N8, off8, hro8, hJ⟩
          · have hw : ¬ wd < c := by omega
            have hsc : ps.length = c := by omega
            have hoi9 : OI .none (wIdx c wd ps) := by
              rw [wIdx, if_neg hw]
              exact .none
            refine ⟨wpAny_call (fill_con w els2 (wIdx c wd ps) (some (ii : Int)) (by omega) (wIdx_small hpb) (law_brOk hlaw hbrs (by omega)) _ _ mg mb _ _ _ _ _ _ _ _ _ _ _ _ _ _ _ _ _ _ K1 (by k_asm) KX (by k_asm) T rfl ⟨x, dx, D, us2, _, _, ⟨td, nd, by k_mem, by k_mem, by k_mem, hx4.mono fun p hp => by k_mem⟩, hoi9, .int _ _, .inl rfl⟩ ?_ ?_ ?_)⟩
            · decide
            · decide
            intro r tl h1 tk1 F24 N25 hD25 ho
            obtain ⟨Df, uf, nf, rfl, hf1, hf2⟩ := ho
            replace hf2 : ElsIn (tl ++ ((I, oI) :: (C, oC) :: (D', LCg.lst ys) :: ((s1.heap.objs.size + 1 + 1 + 1 + 1 + 1 + 1 + 1 + 1, o8') :: (s1.heap.objs.size + 1 + 1 + 1 + 1 + 1 + 1 + 1, o7') :: (s1.heap.objs.size + 1 + 1 + 1 + 1 + 1 + 1, o6') :: (s1.heap.objs.size + 1 + 1 + 1 + 1 + 1, o5') :: (s1.heap.objs.size + 1 + 1 + 1 + 1, o4') :: (s1.heap.objs.size + 1 + 1 + 1, o3') :: (s1.heap.objs.size + 1 + 1, o2') :: (s1.heap.objs.size + 1, o1) :: ownX))) uf (els2.map (fillE (wIdx c wd ps) ii)) := hf2
            k_steps
            refine ⟨eq_path N25 (fun p h => h) hf1 (by k_mem) hf2 hup (by ke_room) ?_⟩
            k_steps
            · rename_i hb
              obtain ⟨nw, N8, off8, hro8, hJ⟩ := cend (ys ++ [.int (ii : Int) tr]) h1 tl N25 hD25 (hmade.yes hlaw hbrs hnr hii ⟨hsc, (eqv_made _ _).mp hb⟩)
              refine ⟨?_⟩
              unfold TEnd
              rw [if_pos rfl]
              k_steps
              exact ⟨⟨_, _, nw, rfl, by assumption, N8, off8, hro8, hJ⟩⟩
            · rename_i hb
              obtain ⟨nw, N8, off8, hro8, hJ⟩ := cend ys h1 tl N25 hD25 (hmade.no fun m => by rw [(eqv_made _ _).mpr m.2] at hb; cases hb)
              refine ⟨?_⟩
              unfold TEnd
              rw [if_neg Bool.false_ne_true]
              exact ⟨_, _, nw, rfl, by assumption, N8, off8, hro8, hJ⟩
          · obtain ⟨nw, N8, off8, hro8, hJ⟩ := cend ys h [] N23 (fun _ h => nomatch h) (hmade.no fun m => by have := m.1; omega)
            refine ⟨?_⟩
            unfold TEnd
            rw [if_neg Bool.false_ne_true]
            exact ⟨_, _, nw, rfl, by assumption, N8, off8, hro8, hJ⟩
        · rintro hp ys nw hro9 ⟨ownX, rfl, farX, subX, hmade⟩
          clear F20 N21
          unfold LCg.FinA
          intro M h' tk' F22 N22 o1'
          simp only [LCg.Off1] at o1'
          k_steps
          refine ⟨_, _, M, ys, (M, LCg.lst ys) :: ownX, _, rfl, hmade, .head _, ⟨fun p hp => ?_⟩, fun p hp => .tail _ (subX p hp), by assumption, fun p hp => N22 p (mem_sw (cells := cel s1.heap.objs.size o8' o7' o6' o5' o4' o3' o2' o1) hp), rfl, rfl, rfl, rfl, rfl, rfl⟩
          rcases List.mem_cons.mp hp with rfl | hp
          · show @LT.lt Nat _ (s1.heap.objs.size + 8) M ∨ @LT.lt Nat _ M (s1.heap.objs.size + 1)
            omega
          · exact farX.out p hp
      clear hmi hmb2 hmg hmr hmj
      rintro s' ⟨h2, tk2, M, mv, ownM, m6, rfl, hmade, hMm, farM, subM, F21, N22, hmi, hmb2, hmg, hmr, hmj, hmd⟩
      replace hPm := subM _ hPm
      replace hD1 := subM _ hD1
      replace hels3 := hels3.mono subM
      replace hder := hder.mono subM
      replace hder2 := hder2.mono subM
      replace hro := subM _ hro
      replace ho5 : ∀ p ∈ own5, p ∈ _ := fun p hp => subM p (ho5 p hp)
      replace hoi : ∀ p ∈ own, p ∈ _ := fun p hp => subM p (hoi p hp)
      clear F20 N21 subM farP
      refine wpAny_execs_cons ?_
      refine @cutM _ _ _ _ _ _ (fun s' => E5 fun (h2 : Heap) (tk : Nat) (tv : Value) (ownO : List (Addr × Obj)) (m : Str → Option Value) => A13 (s' = { s1 with heap := h2, toks := tk }) (checkOut (checkR els2 ps) ownO tv) (Far s1.heap.objs.size ownO) ((∀ p ∈ ownM, p ∈ ownO)) (Fr s1.heap s1.heap.objs.size h2 m) (News s1.heap s1.heap.objs.size h2 (((s1.heap.objs.size + 1 + 1 + 1 + 1 + 1 + 1 + 1 + 1, o8') :: (s1.heap.objs.size + 1 + 1 + 1 + 1 + 1 + 1 + 1, o7') :: (s1.heap.objs.size + 1 + 1 + 1 + 1 + 1 + 1, o6') :: (s1.heap.objs.size + 1 + 1 + 1 + 1 + 1, o5') :: (s1.heap.objs.size + 1 + 1 + 1 + 1, o4') :: (s1.heap.objs.size + 1 + 1 + 1, o3') :: (s1.heap.objs.size + 1 + 1, o2') :: (s1.heap.objs.size + 1, o1) :: ownO))) (m (Str.ofString "indexes") = some (.ref D)) (m (Str.ofString "branches") = some (.ref D2)) (m (Str.ofString "again") = some (.ref x2)) (m (Str.ofString "ranks") = some (.ref rk)) (m (Str.ofString "j") = some (.int (i : Int) t)) (m (Str.ofString "made") = some (.ref M)) (m (Str.ofString "told") = some (tv))) ?_ ?_
      · have hQk : Quick := ⟨⟩
        replace F21 := frK0 [(Str.ofString "indexes", .ref D), (Str.ofString "branches", .ref D2), (Str.ofString "again", .ref x2), (Str.ofString "ranks", .ref rk), (Str.ofString "j", .int (i : Int) t), (Str.ofString "made", .ref M)] F21 (by
          intro p hp
          simp only [List.mem_cons, List.not_mem_nil, or_false] at hp
          rcases hp with rfl | rfl | rfl | rfl | rfl | rfl <;> assumption)
        clear hmi hmb2 hmg hmr hmj hmd
        obtain ⟨td, nd, hx1, hx2, hx3, hx4⟩ := id hder
        have hel2 := hlaw.len
        have hpl := hup.length
        have hszo := hsz.out
        k_steps
        refine ⟨wpAny_call (check_con w els2 ps (by omega) (by omega) (menu_lay hlaw.ok) _ _ mg mb _ _ _ _ _ _ _ _ _ _ _ _ _ _ _ _ _ _ K1 (by k_asm) KX (by k_asm) T rfl ⟨x, dx, D, us2, P, us, nQ, hder.mono fun p hp => by k_mem, by k_mem, hup, rfl⟩ ?_ ?_ ?_)⟩
        · decide
        · decide
        intro r tl h1 tk1 F23 N24 hD24 ho
        obtain ⟨ownO, N9, far9, sub9, _, _, un9⟩ := law_back (cel_data (o8 := o8') (o7 := o7') (o6 := o6') (o5 := o5') (o4 := o4') (o3 := o3') (o2 := o2') (o1 := o1) e8 d7' d6' d5' d4' d3' d2' d1) N24 hD24 farM
        replace ho := checkOut_un un9 ho
        clear N24 F21 N22
        k_steps
        try any_goals with_reducible exact True.intro
        exact ⟨_, _, r, ownO, _, rfl, ho, far9, sub9, by assumption, by assumption, rfl, rfl, rfl, rfl, rfl, rfl, rfl⟩
      clear hmi hmb2 hmg hmr hmj hmd
      rintro s' ⟨h2, tk2, tv, ownO, m7, rfl, htold, farO, subO, F22, N23, hmi, hmb2, hmg, hmr, hmj, hmd, hmt⟩
      replace hPm := subO _ hPm
      replace hD1 := subO _ hD1
      replace hels3 := hels3.mono subO
      replace hder := hder.mono subO
      replace hder2 := hder2.mono subO
      replace hro := subO _ hro
      replace ho5 : ∀ p ∈ own5, p ∈ _ := fun p hp => subO p (ho5 p hp)
      replace hoi : ∀ p ∈ own, p ∈ _ := fun p hp => subO p (hoi p hp)
      replace hMm := subO _ hMm
      clear F21 N22 subO farM
      refine wpAny_execs_cons ?_
      refine @cutM _ _ _ _ _ _ (fun s' => E4 fun (h2 : Heap) (tk : Nat) (ownR : List (Addr × Obj)) (m : Str → Option Value) => A11 (s' = { s1 with heap := h2, toks := tk }) (Far s1.heap.objs.size ownR) ((∀ p ∈ ownO, p ∈ ownR)) (Fr s1.heap s1.heap.objs.size h2 m) (News s1.heap s1.heap.objs.size h2 (((s1.heap.objs.size + 1 + 1 + 1 + 1 + 1 + 1 + 1 + 1, o8') :: (s1.heap.objs.size + 1 + 1 + 1 + 1 + 1 + 1 + 1, o7') :: (s1.heap.objs.size + 1 + 1 + 1 + 1 + 1 + 1, o6') :: (s1.heap.objs.size + 1 + 1 + 1 + 1 + 1, o5') :: (s1.heap.objs.size + 1 + 1 + 1 + 1, o4') :: (s1.heap.objs.size + 1 + 1 + 1, o3') :: (s1.heap.objs.size + 1 + 1, o2') :: (s1.heap.objs.size + 1, o1) :: ownR))) (m (Str.ofString "indexes") = some (.ref D)) (m (Str.ofString "branches") = some (.ref D2)) (m (Str.ofString "again") = some (.ref x2)) (m (Str.ofString "ranks") = some (.ref rk)) (m (Str.ofString "j") = some (.int (i : Int) t)) (m (Str.ofString "made") = some (.ref M))) ?_ ?_
      · have hQk : Quick := ⟨⟩
        replace F22 := frK0 [(Str.ofString "indexes", .ref D), (Str.ofString "branches", .ref D2), (Str.ofString "again", .ref x2), (Str.ofString "ranks", .ref rk), (Str.ofString "j", .int (i : Int) t), (Str.ofString "made", .ref M), (Str.ofString "told", tv)] F22 (by
          intro p hp
          simp only [List.mem_cons, List.not_mem_nil, or_false] at hp
          rcases hp with rfl | rfl | rfl | rfl | rfl | rfl | rfl <;> assumption)
        clear hmi hmb2 hmg hmr hmj hmd hmt
        have hel2 := hlaw.len
        have hpl := hup.length
        have hszo := hsz.out
        have hnr := hrk.num
        obtain ⟨ty, ny, hy1, hy2, hy3, hy4⟩ := id hder2
        by_cases hw : wd < c
        · rw [decide_eq_true hw] at d4'
          rcases hmade with ⟨rfl, hno⟩ | ⟨r, t0, hr, rfl, hm⟩
          · have ht0 : checkR els2 ps = none := told_not hlaw hbrs hw (fun r hr => hno r (by omega))
            rw [ht0] at htold
            have hMl : (M, listOf (List.toArray []) 0) ∈ ownO := hMm
            have hml0 : ([] : List Value).length = 0 := rfl
            replace htold : tv = .none := htold
            subst htold
            k_steps
            refine ⟨ne_nil0 (by k_asm) (by k_mem) (by k_mem) (by ke_room) ?_⟩
            k_steps
            rename Fr _ _ _ _ => F30
            rename News _ _ _ _ => N30
            replace N30 : News s1.heap s1.heap.objs.size _ (((s1.heap.objs.size + 1 + 1 + 1 + 1 + 1 + 1 + 1 + 1, o8') :: (s1.heap.objs.size + 1 + 1 + 1 + 1 + 1 + 1 + 1, o7') :: (s1.heap.objs.size + 1 + 1 + 1 + 1 + 1 + 1, o6') :: (s1.heap.objs.size + 1 + 1 + 1 + 1 + 1, o5') :: (s1.heap.objs.size + 1 + 1 + 1 + 1, o4') :: (s1.heap.objs.size + 1 + 1 + 1, o3') :: (s1.heap.objs.size + 1 + 1, o2') :: (s1.heap.objs.size + 1, o1) :: ownO)) := fun p hp => N30 p (.tail _ hp)
            refine ⟨wpAny_call (check_con w els2 ps (by omega) (by omega) (menu_lay hlaw.ok) _ _ mg mb _ _ _ _ _ _ _ _ _ _ _ _ _ _ _ _ _ _ K1 (by k_asm) KX (by k_asm) T rfl ⟨x2, dx2, l2, vs2, P, us, nQ, hder2.mono fun p hp => by k_mem, by k_mem, hup, rfl⟩ ?_ ?_ ?_)⟩
            · decide
            · decide
            intro r2 tl h1 tk1 F31 N31 hD31 ho
            obtain ⟨ownR, N9, far9, sub9, _, _, un9⟩ := law_back (cel_data (o8 := o8') (o7 := o7') (o6 := o6') (o5 := o5') (o4 := o4') (o3 := o3') (o2 := o2') (o1 := o1) e8 d7' d6' d5' d4' d3' d2' d1) N31 hD31 farO
            replace ho := checkOut_un un9 ho
            rw [ht0] at ho
            replace ho : r2 = .none := ho
            subst ho
            replace hMl := sub9 _ hMl
            clear F30 N30 N31
            k_steps
            try any_goals with_reducible exact True.intro
            exact ⟨_, _, ownR, _, rfl, far9, sub9, by assumption, by assumption, rfl, rfl, rfl, rfl, rfl, rfl⟩
          · have hsc : ps.length = c := hm.1
            obtain ⟨q, tq, hq1, hq2⟩ := ints_at hup (z := (wd : Int)) (by omega) (by omega)
            have hgq : ps.getD wd 0 = q := by rw [List.getD_eq_getElem?_getD, show ps[wd]? = some q from hq2]; rfl
            have ht0 : checkR els2 ps = some (q, (r : Int)) := by rw [← hgq]; exact told_wild hlaw hbrs hw (by omega) hm
            rw [ht0] at htold
            have hMl : (M, listOf (List.toArray [.int (r : Int) t0]) 1) ∈ ownO := hMm
            have hml0 : ([.int (r : Int) t0] : List Value).length = 1 := rfl
            obtain ⟨T9, tt9, tu9, nt9, rfl, hT9⟩ := id htold
            k_steps
            refine ⟨ne_nil1 (by k_asm) (by k_mem) (by k_mem) (by ke_room) ?_⟩
            k_steps
            rename News _ _ _ _ => N30
            refine ⟨sub_item ⟨_, (N30 (P, listOf us.toArray nQ) (by k_mem)).1, rfl, _, rfl⟩ (by omega) (by omega) hq1 ?_⟩
            k_steps
            refine ⟨sub_item ⟨_, (N30 (M, listOf (List.toArray [.int (r : Int) t0]) 1) (by k_mem)).1, rfl, _, rfl⟩ (by decide) (by decide) rfl ?_⟩
            k_steps
            rename Fr _ _ _ _ => F30
            rename News _ _ _ _ => N31
            refine ⟨ne_told (o := some (q, (r : Int))) N31 (checkOut.mono (fun p hp => by k_mem) htold) ⟨_, _, _, _, rfl, by k_mem⟩ (by ke_room) ?_⟩
            k_steps
            replace N31 : News s1.heap s1.heap.objs.size _ (((s1.heap.objs.size + 1 + 1 + 1 + 1 + 1 + 1 + 1 + 1, o8') :: (s1.heap.objs.size + 1 + 1 + 1 + 1 + 1 + 1 + 1, o7') :: (s1.heap.objs.size + 1 + 1 + 1 + 1 + 1 + 1, o6') :: (s1.heap.objs.size + 1 + 1 + 1 + 1 + 1, o5') :: (s1.heap.objs.size + 1 + 1 + 1 + 1, o4') :: (s1.heap.objs.size + 1 + 1 + 1, o3') :: (s1.heap.objs.size + 1 + 1, o2') :: (s1.heap.objs.size + 1, o1) :: ownO)) := fun p hp => N31 p (by k_mem)
            refine ⟨wpAny_call (check_con w els2 ps (by omega) (by omega) (menu_lay hlaw.ok) _ _ mg mb _ _ _ _ _ _ _ _ _ _ _ _ _ _ _ _ _ _ K1 (by k_asm) KX (by k_asm) T rfl ⟨x2, dx2, l2, vs2, P, us, nQ, hder2.mono fun p hp => by k_mem, by k_mem, hup, rfl⟩ ?_ ?_ ?_)⟩
            · decide
            · decide
            intro r2 tl h1 tk1 F32 N32 hD32 ho
            obtain ⟨ownR, N9, far9, sub9, _, _, un9⟩ := law_back (cel_data (o8 := o8') (o7 := o7') (o6 := o6') (o5 := o5') (o4 := o4') (o3 := o3') (o2 := o2') (o1 := o1) e8 d7' d6' d5' d4' d3' d2' d1) N32 hD32 farO
            replace ho := checkOut_un un9 ho
            rw [ht0] at ho
            obtain ⟨T8, tt8, tu8, nt8, rfl, hT8⟩ := id ho
            replace hMl := sub9 _ hMl
            clear F30 N31 N32
            k_steps
            refine ⟨ne_told N9 (checkOut.mono (fun p hp => by k_mem) ho) (checkOut.mono (fun p hp => by have := sub9 p hp; k_mem) htold) (by ke_room) ?_⟩
            k_steps
            try any_goals with_reducible exact True.intro
            exact ⟨_, _, ownR, _, rfl, far9, sub9, by assumption, by assumption, rfl, rfl, rfl, rfl, rfl, rfl⟩
        · rw [decide_eq_false hw] at d4'
          have ht0 : checkR els2 ps = none := told_none hlaw hw ps
          rw [ht0] at htold
          replace htold : tv = .none := htold
          subst htold
          rcases hmade with ⟨rfl, hno⟩ | ⟨r, t0, hr, rfl, hm⟩
          · have hMl : (M, listOf (List.toArray []) 0) ∈ ownO := hMm
            have hml0 : ([] : List Value).length = 0 := rfl
            k_steps
            rename Fr _ _ _ _ => F30
            rename News _ _ _ _ => N30
            refine ⟨wpAny_call (check_con w els2 ps (by omega) (by omega) (menu_lay hlaw.ok) _ _ mg mb _ _ _ _ _ _ _ _ _ _ _ _ _ _ _ _ _ _ K1 (by k_asm) KX (by k_asm) T rfl ⟨x2, dx2, l2, vs2, P, us, nQ, hder2.mono fun p hp => by k_mem, by k_mem, hup, rfl⟩ ?_ ?_ ?_)⟩
            · decide
            · decide
            intro r2 tl h1 tk1 F31 N31 hD31 ho
            obtain ⟨ownR, N9, far9, sub9, _, _, un9⟩ := law_back (cel_data (o8 := o8') (o7 := o7') (o6 := o6') (o5 := o5') (o4 := o4') (o3 := o3') (o2 := o2') (o1 := o1) e8 d7' d6' d5' d4' d3' d2' d1) N31 hD31 farO
            replace ho := checkOut_un un9 ho
            rw [ht0] at ho
            replace ho : r2 = .none := ho
            subst ho
            replace hMl := sub9 _ hMl
            clear F30 N30 N31
            k_steps
            try any_goals with_reducible exact True.intro
            exact ⟨_, _, ownR, _, rfl, far9, sub9, by assumption, by assumption, rfl, rfl, rfl, rfl, rfl, rfl⟩
          · have hMl : (M, listOf (List.toArray [.int (r : Int) t0]) 1) ∈ ownO := hMm
            have hml0 : ([.int (r : Int) t0] : List Value).length = 1 := rfl
            k_steps
            rename Fr _ _ _ _ => F30
            rename News _ _ _ _ => N30
            refine ⟨wpAny_call (check_con w els2 ps (by omega) (by omega) (menu_lay hlaw.ok) _ _ mg mb _ _ _ _ _ _ _ _ _ _ _ _ _ _ _ _ _ _ K1 (by k_asm) KX (by k_asm) T rfl ⟨x2, dx2, l2, vs2, P, us, nQ, hder2.mono fun p hp => by k_mem, by k_mem, hup, rfl⟩ ?_ ?_ ?_)⟩
            · decide
            · decide
            intro r2 tl h1 tk1 F31 N31 hD31 ho
            obtain ⟨ownR, N9, far9, sub9, _, _, un9⟩ := law_back (cel_data (o8 := o8') (o7 := o7') (o6 := o6') (o5 := o5') (o4 := o4') (o3 := o3') (o2 := o2') (o1 := o1) e8 d7' d6' d5' d4' d3' d2' d1) N31 hD31 farO
            replace ho := checkOut_un un9 ho
            rw [ht0] at ho
            replace ho : r2 = .none := ho
            subst ho
            replace hMl := sub9 _ hMl
            clear F30 N30 N31
            k_steps
            try any_goals with_reducible exact True.intro
            exact ⟨_, _, ownR, _, rfl, far9, sub9, by assumption, by assumption, rfl, rfl, rfl, rfl, rfl, rfl⟩
      clear hmi hmb2 hmg hmr hmj hmd hmt
      rintro s' ⟨h2, tk2, ownR, m8, rfl, farR, subR, F23, N24, hmi, hmb2, hmg, hmr, hmj, hmd⟩
      replace hPm := subR _ hPm
      replace hD1 := subR _ hD1
      replace hels3 := hels3.mono subR
      replace hder := hder.mono subR
      replace hder2 := hder2.mono subR
      replace hro := subR _ hro
      replace ho5 : ∀ p ∈ own5, p ∈ _ := fun p hp => subR p (ho5 p hp)
      replace hoi : ∀ p ∈ own, p ∈ _ := fun p hp => subR p (hoi p hp)
      replace hMm := subR _ hMm
      clear F22 N23 subR farO
      refine wpAny_execs_cons ?_
      refine @cutM _ _ _ _ _ _ (fun s' => E5 fun (h2 : Heap) (tk : Nat) (o8c : Obj) (v8c : Option Value) (m : Str → Option Value) => A10 (s' = { s1 with heap := h2, toks := tk }) (o8c.data = Data.cell v8c) (Fr s1.heap s1.heap.objs.size h2 m) (News s1.heap s1.heap.objs.size h2 (cel s1.heap.objs.size o8c o7' o6' o5' o4' o3' o2' o1 ++ ownR)) (m (Str.ofString "indexes") = some (.ref D)) (m (Str.ofString "branches") = some (.ref D2)) (m (Str.ofString "again") = some (.ref x2)) (m (Str.ofString "ranks") = some (.ref rk)) (m (Str.ofString "j") = some (.int (i : Int) t)) (m (Str.ofString "made") = some (.ref M))) ?_ ?_
      · have hQk : Quick := ⟨⟩
        have hnr := hrk.num
        have hnr3 : nr ≤ 3 := by rw [hnr]; exact nR_le hbrs
        replace F23 := frK0 [(Str.ofString "indexes", .ref D), (Str.ofString "branches", .ref D2), (Str.ofString "again", .ref x2), (Str.ofString "ranks", .ref rk), (Str.ofString "j", .int (i : Int) t), (Str.ofString "made", .ref M)] F23 (by
          intro p hp
          simp only [List.mem_cons, List.not_mem_nil, or_false] at hp
          rcases hp with rfl | rfl | rfl | rfl | rfl | rfl <;> assumption)
        clear hmi hmb2 hmg hmr hmj hmd
        refine For_unr s1.heap ?_ (fun _ => rfl)
        k_steps
        refine ⟨ranks_iter (by k_mem) hrk hnr3 (by rfl) F23 N24 (fun _ m nx => ∃ o8c v8c, nx = cel s1.heap.objs.size o8c o7' o6' o5' o4' o3' o2' o1 ++ ownR ∧ o8c.data = Data.cell v8c ∧ m (Str.ofString "indexes") = some (.ref D) ∧ m (Str.ofString "branches") = some (.ref D2) ∧ m (Str.ofString "again") = some (.ref x2) ∧ m (Str.ofString "ranks") = some (.ref rk) ∧ m (Str.ofString "j") = some (.int (i : Int) t) ∧ m (Str.ofString "made") = some (.ref M)) ⟨o8', _, rfl, e8, rfl, rfl, rfl, rfl, rfl, rfl⟩ ?_ ?_⟩
        · rintro ri tr m₂ nx h tk ow hri hro9 hoff9 ⟨o8c, v8c, rfl, e8c, hmi, hmb2, hmg, hmr, hmj, hmd⟩ F24 N25
          clear F23 N24
          obtain ⟨ownS, hSeq, farS, subS⟩ : ∃ ownS, ownR ++ ow = ownS ∧ Far s1.heap.objs.size ownS ∧ ∀ p ∈ ownR, p ∈ ownS := ⟨_, rfl, ⟨fun p hp => by
            rcases List.mem_append.mp hp with hp | hp
            · exact farR.out p hp
            · exact far_of (o8 := o8c) (o7 := o7') (o6 := o6') (o5 := o5') (o4 := o4') (o3 := o3') (o2 := o2') (o1 := o1) fun q hq => hoff9 p hp q.1 (List.mem_map.mpr ⟨q, List.mem_append.mpr (.inl hq), rfl⟩)⟩, fun p hp => List.mem_append.mpr (.inl hp)⟩
          have how : ∀ p ∈ ow, p ∈ ownS := fun p hp => hSeq ▸ List.mem_append.mpr (.inr hp)
          replace N25 : News s1.heap s1.heap.objs.size h (((s1.heap.objs.size + 1 + 1 + 1 + 1 + 1 + 1 + 1 + 1, o8c) :: (s1.heap.objs.size + 1 + 1 + 1 + 1 + 1 + 1 + 1, o7') :: (s1.heap.objs.size + 1 + 1 + 1 + 1 + 1 + 1, o6') :: (s1.heap.objs.size + 1 + 1 + 1 + 1 + 1, o5') :: (s1.heap.objs.size + 1 + 1 + 1 + 1, o4') :: (s1.heap.objs.size + 1 + 1 + 1, o3') :: (s1.heap.objs.size + 1 + 1, o2') :: (s1.heap.objs.size + 1, o1) :: ownS)) := by
            rw [← hSeq]
            exact fun p hp => N25 p (by rw [List.append_assoc]; exact hp)
          have hroR := hro
          replace hPm := subS _ hPm
          replace hD1 := subS _ hD1
          replace hels3 := hels3.mono subS
          replace hder := hder.mono subS
          replace hder2 := hder2.mono subS
          replace hro := subS _ hro
          replace ho5 : ∀ p ∈ own5, p ∈ _ := fun p hp => subS p (ho5 p hp)
          replace hoi : ∀ p ∈ own, p ∈ _ := fun p hp => subS p (hoi p hp)
          replace hMm := subS _ hMm
          refine wpAny_mono (Q := fun _ s' => At (fun s' => E4 fun (h2 : Heap) (tk : Nat) (o8d : Obj) (m : Str → Option Value) => A10 (s' = { s1 with heap := h2, toks := tk }) (o8d.data = Data.cell (some (.int (ri : Int) tr))) (Fr s1.heap s1.heap.objs.size h2 m) (News s1.heap s1.heap.objs.size h2 (((s1.heap.objs.size + 1 + 1 + 1 + 1 + 1 + 1 + 1 + 1, o8d) :: (s1.heap.objs.size + 1 + 1 + 1 + 1 + 1 + 1 + 1, o7') :: (s1.heap.objs.size + 1 + 1 + 1 + 1 + 1 + 1, o6') :: (s1.heap.objs.size + 1 + 1 + 1 + 1 + 1, o5') :: (s1.heap.objs.size + 1 + 1 + 1 + 1, o4') :: (s1.heap.objs.size + 1 + 1 + 1, o3') :: (s1.heap.objs.size + 1 + 1, o2') :: (s1.heap.objs.size + 1, o1) :: ownS))) (m (Str.ofString "indexes") = some (.ref D)) (m (Str.ofString "branches") = some (.ref D2)) (m (Str.ofString "again") = some (.ref x2)) (m (Str.ofString "ranks") = some (.ref rk)) (m (Str.ofString "j") = some (.int (i : Int) t)) (m (Str.ofString "made") = some (.ref M))) s') ?_ (fun _ s' hs' => ?_) fun _ _ e => e
          · refine wpAny_assign_Name ?_
            replace F24 := frK0 [(Str.ofString "indexes", .ref D), (Str.ofString "branches", .ref D2), (Str.ofString "again", .ref x2), (Str.ofString "ranks", .ref rk), (Str.ofString "j", .int (i : Int) t), (Str.ofString "made", .ref M)] F24 (by
              intro p hp
              simp only [List.mem_cons, List.not_mem_nil, or_false] at hp
              rcases hp with rfl | rfl | rfl | rfl | rfl | rfl <;> assumption)
            clear hmi hmb2 hmg hmr hmj hmd
            k_steps
            exact ⟨_, _, _, _, rfl, by assumption, by assumption, by assumption, rfl, rfl, rfl, rfl, rfl, rfl⟩
          · obtain ⟨h2, tk2, o8d, m9, rfl, e8d, F25, N26, hmi, hmb2, hmg, hmr, hmj, hmd⟩ := hs'
            clear F24 N25
            refine wpAny_execs_cons ?_
            refine @cutM _ _ _ _ _ _ (fun s' => E8 fun (h2 : Heap) (tk : Nat) (xp : Addr) (dp : Addr) (lp : Addr) (vp : List Value) (ownU : List (Addr × Obj)) (m : Str → Option Value) => A13 (s' = { s1 with heap := h2, toks := tk }) (DerIn w ownU xp dp lp vp (els2.map (fillE none ri))) (Far s1.heap.objs.size ownU) ((∀ p ∈ ownS, p ∈ ownU)) (Fr s1.heap s1.heap.objs.size h2 m) (News s1.heap s1.heap.objs.size h2 (((s1.heap.objs.size + 1 + 1 + 1 + 1 + 1 + 1 + 1 + 1, o8d) :: (s1.heap.objs.size + 1 + 1 + 1 + 1 + 1 + 1 + 1, o7') :: (s1.heap.objs.size + 1 + 1 + 1 + 1 + 1 + 1, o6') :: (s1.heap.objs.size + 1 + 1 + 1 + 1 + 1, o5') :: (s1.heap.objs.size + 1 + 1 + 1 + 1, o4') :: (s1.heap.objs.size + 1 + 1 + 1, o3') :: (s1.heap.objs.size + 1 + 1, o2') :: (s1.heap.objs.size + 1, o1) :: ownU))) (m (Str.ofString "indexes") = some (.ref D)) (m (Str.ofString "branches") = some (.ref D2)) (m (Str.ofString "again") = some (.ref x2)) (m (Str.ofString "ranks") = some (.ref rk)) (m (Str.ofString "j") = some (.int (i : Int) t)) (m (Str.ofString "made") = some (.ref M)) (m (Str.ofString "part") = some (.ref xp))) ?_ ?_
            · replace F25 := frK0 [(Str.ofString "indexes", .ref D), (Str.ofString "branches", .ref D2), (Str.ofString "again", .ref x2), (Str.ofString "ranks", .ref rk), (Str.ofString "j", .int (i : Int) t), (Str.ofString "made", .ref M)] F25 (by
                intro p hp
                simp only [List.mem_cons, List.not_mem_nil, or_false] at hp
                rcases hp with rfl | rfl | rfl | rfl | rfl | rfl <;> assumption)
              clear hmi hmb2 hmg hmr hmj hmd
              obtain ⟨td, nd, hx1, hx2, hx3, hx4⟩ := id hder
              have hel2 := hlaw.len
              k_steps
              refine ⟨wpAny_call (branch_con w els2 (ri : Int) (by omega) (law_brOk hlaw hbrs (by omega)) hlaw.nones _ _ mg mb _ _ _ _ _ _ _ _ _ _ _ _ _ _ _ _ _ _ K1 (by k_asm) KX (by k_asm) T rfl ⟨x, dx, D, us2, tr, hder.mono fun p hp => by k_mem, rfl⟩ ?_ ?_ ?_)⟩
              · decide
              · decide
              intro r tl h1 tk1 F27 N28 hD28 ho
              obtain ⟨ownU, N9, far9, sub9, _, _, un9⟩ := law_back (cel_data (o8 := o8d) (o7 := o7') (o6 := o6') (o5 := o5') (o4 := o4') (o3 := o3') (o2 := o2') (o1 := o1) e8d d7' d6' d5' d4' d3' d2' d1) N28 hD28 farS
              obtain ⟨xp, dp, lp, vp, rfl, hpd⟩ := ho
              replace hpd : DerIn w _ xp dp lp vp (els2.map (fillE none ri)) := hpd
              replace hpd := hpd.un un9
              clear N28 F25 N26
              k_steps
              try any_goals with_reducible exact True.intro
              exact ⟨_, _, xp, dp, lp, vp, ownU, _, rfl, hpd, far9, sub9, by assumption, by assumption, rfl, rfl, rfl, rfl, rfl, rfl, rfl⟩
            clear hmi hmb2 hmg hmr hmj hmd
            rintro s' ⟨h2, tk2, xp, dp, lp, vp, ownU, m10, rfl, hpd, farU, subU, F26, N27, hmi, hmb2, hmg, hmr, hmj, hmd, hmq⟩
            replace hPm := subU _ hPm
            replace hD1 := subU _ hD1
            replace hels3 := hels3.mono subU
            replace hder := hder.mono subU
            replace hder2 := hder2.mono subU
            replace hro := subU _ hro
            replace ho5 : ∀ p ∈ own5, p ∈ _ := fun p hp => subU p (ho5 p hp)
            replace hoi : ∀ p ∈ own, p ∈ _ := fun p hp => subU p (hoi p hp)
            replace hMm := subU _ hMm
            replace how : ∀ p ∈ ow, p ∈ _ := fun p hp => subU p (how p hp)
            replace subS : ∀ p ∈ ownR, p ∈ _ := fun p hp => subU p (subS p hp)
            clear F25 N26 subU farS
            refine wpAny_execs_cons ?_
            refine @cutM _ _ _ _ _ _ (fun s' => E5 fun (h2 : Heap) (tk : Nat) (fv : Value) (ownV : List (Addr × Obj)) (m : Str → Option Value) => A14 (s' = { s1 with heap := h2, toks := tk }) (checkOut (checkR (els2.map (fillE none ri)) ps) ownV fv) (Far s1.heap.objs.size ownV) ((∀ p ∈ ownU, p ∈ ownV)) (Fr s1.heap s1.heap.objs.size h2 m) (News s1.heap s1.heap.objs.size h2 (((s1.heap.objs.size + 1 + 1 + 1 + 1 + 1 + 1 + 1 + 1, o8d) :: (s1.heap.objs.size + 1 + 1 + 1 + 1 + 1 + 1 + 1, o7') :: (s1.heap.objs.size + 1 + 1 + 1 + 1 + 1 + 1, o6') :: (s1.heap.objs.size + 1 + 1 + 1 + 1 + 1, o5') :: (s1.heap.objs.size + 1 + 1 + 1 + 1, o4') :: (s1.heap.objs.size + 1 + 1 + 1, o3') :: (s1.heap.objs.size + 1 + 1, o2') :: (s1.heap.objs.size + 1, o1) :: ownV))) (m (Str.ofString "indexes") = some (.ref D)) (m (Str.ofString "branches") = some (.ref D2)) (m (Str.ofString "again") = some (.ref x2)) (m (Str.ofString "ranks") = some (.ref rk)) (m (Str.ofString "j") = some (.int (i : Int) t)) (m (Str.ofString "made") = some (.ref M)) (m (Str.ofString "part") = some (.ref xp)) (m (Str.ofString "found") = some (fv))) ?_ ?_
            · replace F26 := frK0 [(Str.ofString "indexes", .ref D), (Str.ofString "branches", .ref D2), (Str.ofString "again", .ref x2), (Str.ofString "ranks", .ref rk), (Str.ofString "j", .int (i : Int) t), (Str.ofString "made", .ref M), (Str.ofString "part", .ref xp)] F26 (by
                intro p hp
                simp only [List.mem_cons, List.not_mem_nil, or_false] at hp
                rcases hp with rfl | rfl | rfl | rfl | rfl | rfl | rfl <;> assumption)
              clear hmi hmb2 hmg hmr hmj hmd hmq
              obtain ⟨td, nd, hx1, hx2, hx3, hx4⟩ := id hpd
              have hel2 := hlaw.len
              have hpl := hup.length
              have hszo := hsz.out
              have hml2 : (els2.map (fillE none ri)).length = c := by rw [List.length_map]; exact hel2
              k_steps
              refine ⟨wpAny_call (check_con w (els2.map (fillE none ri)) ps (by omega) (by omega) (fun xs hx => absurd hx (fill_noset xs)) _ _ mg mb _ _ _ _ _ _ _ _ _ _ _ _ _ _ _ _ _ _ K1 (by k_asm) KX (by k_asm) T rfl ⟨xp, dp, lp, vp, P, us, nQ, hpd.mono fun p hp => by k_mem, by k_mem, hup, rfl⟩ ?_ ?_ ?_)⟩
              · decide
              · decide
              intro r tl h1 tk1 F27 N28 hD28 ho
              obtain ⟨ownV, N9, far9, sub9, _, _, un9⟩ := law_back (cel_data (o8 := o8d) (o7 := o7') (o6 := o6') (o5 := o5') (o4 := o4') (o3 := o3') (o2 := o2') (o1 := o1) e8d d7' d6' d5' d4' d3' d2' d1) N28 hD28 farU
              replace ho := checkOut_un un9 ho
              clear N28 F26 N27
              k_steps
              try any_goals with_reducible exact True.intro
              exact ⟨_, _, r, ownV, _, rfl, ho, far9, sub9, by assumption, by assumption, rfl, rfl, rfl, rfl, rfl, rfl, rfl, rfl⟩
            clear hmi hmb2 hmg hmr hmj hmd hmq
            rintro s' ⟨h2, tk2, fv, ownV, m11, rfl, hfd, farV, subV, F27, N28, hmi, hmb2, hmg, hmr, hmj, hmd, hmq, hmf⟩
            replace hPm := subV _ hPm
            replace hD1 := subV _ hD1
            replace hels3 := hels3.mono subV
            replace hder := hder.mono subV
            replace hder2 := hder2.mono subV
            replace hro := subV _ hro
            replace ho5 : ∀ p ∈ own5, p ∈ _ := fun p hp => subV p (ho5 p hp)
            replace hoi : ∀ p ∈ own, p ∈ _ := fun p hp => subV p (hoi p hp)
            replace hMm := subV _ hMm
            replace hpd := hpd.mono subV
            replace how : ∀ p ∈ ow, p ∈ _ := fun p hp => subV p (how p hp)
            replace subS : ∀ p ∈ ownR, p ∈ _ := fun p hp => subV p (subS p hp)
            clear F26 N27 subV farU
            refine wpAny_execs_cons ?_
            refine @cutM _ _ _ _ _ _ (fun s' => E3 fun (h2 : Heap) (tk : Nat) (m : Str → Option Value) => A10 (s' = { s1 with heap := h2, toks := tk }) (Fr s1.heap s1.heap.objs.size h2 m) (News s1.heap s1.heap.objs.size h2 (((s1.heap.objs.size + 1 + 1 + 1 + 1 + 1 + 1 + 1 + 1, o8d) :: (s1.heap.objs.size + 1 + 1 + 1 + 1 + 1 + 1 + 1, o7') :: (s1.heap.objs.size + 1 + 1 + 1 + 1 + 1 + 1, o6') :: (s1.heap.objs.size + 1 + 1 + 1 + 1 + 1, o5') :: (s1.heap.objs.size + 1 + 1 + 1 + 1, o4') :: (s1.heap.objs.size + 1 + 1 + 1, o3') :: (s1.heap.objs.size + 1 + 1, o2') :: (s1.heap.objs.size + 1, o1) :: ownV))) (m (Str.ofString "indexes") = some (.ref D)) (m (Str.ofString "branches") = some (.ref D2)) (m (Str.ofString "again") = some (.ref x2)) (m (Str.ofString "ranks") = some (.ref rk)) (m (Str.ofString "j") = some (.int (i : Int) t)) (m (Str.ofString "made") = some (.ref M)) (m (Str.ofString "part") = some (.ref xp))) ?_ ?_
            · replace F27 := frK0 [(Str.ofString "indexes", .ref D), (Str.ofString "branches", .ref D2), (Str.ofString "again", .ref x2), (Str.ofString "ranks", .ref rk), (Str.ofString "j", .int (i : Int) t), (Str.ofString "made", .ref M), (Str.ofString "part", .ref xp), (Str.ofString "found", fv)] F27 (by
                intro p hp
                simp only [List.mem_cons, List.not_mem_nil, or_false] at hp
                rcases hp with rfl | rfl | rfl | rfl | rfl | rfl | rfl | rfl <;> assumption)
              clear hmi hmb2 hmg hmr hmj hmd hmq hmf
              have hel2 := hlaw.len
              have hpl := hup.length
              have hszo := hsz.out
              by_cases hw : wd < c
              · rw [decide_eq_true hw] at d4'
                rcases hmade with ⟨rfl, hno⟩ | ⟨r, t0, hr, rfl, hm⟩
                · have hf0 : checkR (els2.map (fillE none ri)) ps = none := part_not hlaw hw (hno ri hri)
                  rw [hf0] at hfd
                  have hMl : (M, listOf (List.toArray []) 0) ∈ ownV := hMm
                  replace hfd : fv = .none := hfd
                  subst hfd
                  k_steps
                  refine ⟨in_made0 (by k_asm) (by k_mem) ?_⟩
                  k_steps
                  try any_goals with_reducible exact True.intro
                  rename Fr _ _ _ _ => F30
                  rename News _ _ _ _ => N30
                  exact ⟨_, _, _, rfl, F30, fun p hp => N30 p (by k_mem), rfl, rfl, rfl, rfl, rfl, rfl, rfl⟩
                · have hMl : (M, listOf (List.toArray [.int (r : Int) t0]) 1) ∈ ownV := hMm
                  by_cases hrr : r = ri
                  · have hm' : Made els2 c wd ps ri := hrr ▸ hm
                    have hsc : ps.length = c := hm.1
                    obtain ⟨q, tq, hq1, hq2⟩ := ints_at hup (z := (wd : Int)) (by omega) (by omega)
                    have hgq : ps.getD wd 0 = q := by rw [List.getD_eq_getElem?_getD, show ps[wd]? = some q from hq2]; rfl
                    have hf0 : checkR (els2.map (fillE none ri)) ps = some (q, 0) := by rw [← hgq]; exact part_yes hlaw hw hm'
                    rw [hf0] at hfd
                    obtain ⟨T9, tt9, tu9, nt9, rfl, hT9⟩ := id hfd
                    k_steps
                    refine ⟨in_made_yes (i := (r : Int)) (k := (ri : Int)) (by rw [hrr]) (by k_asm) (by k_mem) ?_⟩
                    k_steps
                    rename News _ _ _ _ => N30
                    refine ⟨sub_item ⟨_, (N30 (P, listOf us.toArray nQ) (by k_mem)).1, rfl, _, rfl⟩ (by omega) (by omega) hq1 ?_⟩
                    k_steps
                    rename News _ _ _ _ => N31
                    refine ⟨ne_told (o := some (q, 0)) N31 (checkOut.mono (fun p hp => by k_mem) hfd) ⟨_, _, _, _, rfl, by k_mem⟩ (by ke_room) ?_⟩
                    k_steps
                    try any_goals with_reducible exact True.intro
                    rename Fr _ _ _ _ => F30
                    rename News _ _ _ _ => N30
                    exact ⟨_, _, _, rfl, F30, fun p hp => N30 p (by k_mem), rfl, rfl, rfl, rfl, rfl, rfl, rfl⟩
                  · have hnm : ¬ Made els2 c wd ps ri := fun m => hrr (made_one hlaw hbrs (by omega) (by omega) hm m)
                    have hf0 : checkR (els2.map (fillE none ri)) ps = none := part_not hlaw hw hnm
                    rw [hf0] at hfd
                    replace hfd : fv = .none := hfd
                    subst hfd
                    k_steps
                    refine ⟨in_made_no (i := (r : Int)) (k := (ri : Int)) (by omega) (by k_asm) (by k_mem) ?_⟩
                    k_steps
                    try any_goals with_reducible exact True.intro
                    rename Fr _ _ _ _ => F30
                    rename News _ _ _ _ => N30
                    exact ⟨_, _, _, rfl, F30, fun p hp => N30 p (by k_mem), rfl, rfl, rfl, rfl, rfl, rfl, rfl⟩
              · rw [decide_eq_false hw] at d4'
                have hf0 : checkR (els2.map (fillE none ri)) ps = none := part_none hlaw hw ps ri
                rw [hf0] at hfd
                replace hfd : fv = .none := hfd
                subst hfd
                k_steps
                try any_goals with_reducible exact True.intro
                rename Fr _ _ _ _ => F30
                rename News _ _ _ _ => N30
                exact ⟨_, _, _, rfl, F30, fun p hp => N30 p (by k_mem), rfl, rfl, rfl, rfl, rfl, rfl, rfl⟩
            clear hmi hmb2 hmg hmr hmj hmd hmq hmf
            rintro s' ⟨h2, tk2, m12, rfl, F28, N29, hmi, hmb2, hmg, hmr, hmj, hmd, hmq⟩
            clear F27 N28 hfd
            refine wpAny_execs_cons ?_
            refine @cutM _ _ _ _ _ _ (fun s' => E4 fun (h2 : Heap) (tk : Nat) (ownX : List (Addr × Obj)) (m : Str → Option Value) => A10 (s' = { s1 with heap := h2, toks := tk }) ((∀ p ∈ ownV, p ∈ ownX)) (Fr s1.heap s1.heap.objs.size h2 m) (News s1.heap s1.heap.objs.size h2 (((s1.heap.objs.size + 1 + 1 + 1 + 1 + 1 + 1 + 1 + 1, o8d) :: (s1.heap.objs.size + 1 + 1 + 1 + 1 + 1 + 1 + 1, o7') :: (s1.heap.objs.size + 1 + 1 + 1 + 1 + 1 + 1, o6') :: (s1.heap.objs.size + 1 + 1 + 1 + 1 + 1, o5') :: (s1.heap.objs.size + 1 + 1 + 1 + 1, o4') :: (s1.heap.objs.size + 1 + 1 + 1, o3') :: (s1.heap.objs.size + 1 + 1, o2') :: (s1.heap.objs.size + 1, o1) :: ownX))) (m (Str.ofString "indexes") = some (.ref D)) (m (Str.ofString "branches") = some (.ref D2)) (m (Str.ofString "again") = some (.ref x2)) (m (Str.ofString "ranks") = some (.ref rk)) (m (Str.ofString "j") = some (.int (i : Int) t)) (m (Str.ofString "made") = some (.ref M))) ?_ ?_
            · replace F28 := frK0 [(Str.ofString "indexes", .ref D), (Str.ofString "branches", .ref D2), (Str.ofString "again", .ref x2), (Str.ofString "ranks", .ref rk), (Str.ofString "j", .int (i : Int) t), (Str.ofString "made", .ref M), (Str.ofString "part", .ref xp)] F28 (by
                intro p hp
                simp only [List.mem_cons, List.not_mem_nil, or_false] at hp
                rcases hp with rfl | rfl | rfl | rfl | rfl | rfl | rfl <;> assumption)
              clear hmi hmb2 hmg hmr hmj hmd hmq
              have hel2 := hlaw.len
              have hml2 : (els2.map (fillE none ri)).length = c := by rw [List.length_map]; exact hel2
              obtain ⟨td, nd, hx1, hx2, hx3, hx4⟩ := id hder
              obtain ⟨tp9, np9, hp1, hp2, hp3, hp4⟩ := id hpd
              k_steps
              refine ⟨wpAny_call (fill_con w (els2.map (fillE none ri)) (some (3 + (i : Int))) none (by omega) (fun z hz => by cases hz; omega) (fun xs hx => absurd hx (fill_noset xs)) _ _ mg mb _ _ _ _ _ _ _ _ _ _ _ _ _ _ _ _ _ _ K1 (by k_asm) KX (by k_asm) T rfl ⟨xp, dp, lp, vp, _, _, hpd.mono fun p hp => by k_mem, .int _ _, .none, .inr ⟨rfl, rfl⟩⟩ ?_ ?_ ?_)⟩
              · decide
              · decide
              intro r1 tl h1 tk1 F30 N31 hD31 ho
              obtain ⟨ownX1, N9, far9, sub9, _, _, un9⟩ := law_back (cel_data (o8 := o8d) (o7 := o7') (o6 := o6') (o5 := o5') (o4 := o4') (o3 := o3') (o2 := o2') (o1 := o1) e8d d7' d6' d5' d4' d3' d2' d1) N31 hD31 farV
              obtain ⟨L1, u1, n1, rfl, ho1, ho2⟩ := ho
              replace ho2 : ElsIn _ u1 ((els2.map (fillE none ri)).map (fillE (some (3 + (i : Int))) 0)) := ho2
              rw [fill_fill] at ho2
              replace ho1 := un9 _ ho1 noCell_list
              replace ho2 := ho2.un un9
              replace hder := hder.mono sub9
              replace hpd := hpd.mono sub9
              clear N31 F28 N29 hx1 hx2 hx3 hx4 hp1 hp2 hp3 hp4
              obtain ⟨td, nd, hx1, hx2, hx3, hx4⟩ := id hder
              obtain ⟨tp9, np9, hp1, hp2, hp3, hp4⟩ := id hpd
              k_steps
              refine ⟨wpAny_call (fill_con w els2 (some (3 + (i : Int))) (some (ri : Int)) (by omega) (fun z hz => by cases hz; omega) (law_brOk hlaw hbrs (by omega)) _ _ mg mb _ _ _ _ _ _ _ _ _ _ _ _ _ _ _ _ _ _ K1 (by k_asm) KX (by k_asm) T rfl ⟨x, dx, D, us2, _, _, hder.mono fun p hp => by k_mem, .int _ _, .int _ _, .inl rfl⟩ ?_ ?_ ?_)⟩
              · decide
              · decide
              intro r2 tl2 h2 tk2 F31 N32 hD32 hq
              obtain ⟨ownX2, N8, far8, sub8, _, _, un8⟩ := law_back (cel_data (o8 := o8d) (o7 := o7') (o6 := o6') (o5 := o5') (o4 := o4') (o3 := o3') (o2 := o2') (o1 := o1) e8d d7' d6' d5' d4' d3' d2' d1) N32 hD32 far9
              obtain ⟨L2, u2, n2, rfl, hq1, hq2⟩ := hq
              replace hq2 : ElsIn _ u2 (els2.map (fillE (some (3 + (i : Int))) ri)) := hq2
              replace hq1 := un8 _ hq1 noCell_list
              replace hq2 := hq2.un un8
              replace hder := hder.mono sub8
              replace hpd := hpd.mono sub8
              replace ho1 := sub8 _ ho1
              replace ho2 := ho2.mono sub8
              have hsubA : ∀ p ∈ ownV, p ∈ ownX2 := fun p hp => sub8 p (sub9 p hp)
              clear N32 F30 N9 hx1 hx2 hx3 hx4 hp1 hp2 hp3 hp4 sub9 sub8 un9 un8 far9
              obtain ⟨td, nd, hx1, hx2, hx3, hx4⟩ := id hder
              obtain ⟨tp9, np9, hp1, hp2, hp3, hp4⟩ := id hpd
              k_steps
              refine ⟨ne_els N8 (fun p hp => by k_mem) (fun p hp => by k_mem) (by k_mem) (by k_mem) ho2 hq2 (by ke_room) ?_⟩
              k_steps
              refine ⟨LCg.CompSrc.ledger (by rfl) (by k_asm) (by k_asm) (show (D, listOf us2.toArray nd) ∈ _ by k_mem) (by have := hels3.length; show us2.toArray.size ≤ _; rw [List.size_toArray, sizeLine_eq]; omega) fun g => ?_⟩
              refine rest_ind (fun i ys nw => nw = ((s1.heap.objs.size + 1 + 1 + 1 + 1 + 1 + 1 + 1 + 1, o8d) :: (s1.heap.objs.size + 1 + 1 + 1 + 1 + 1 + 1 + 1, o7') :: (s1.heap.objs.size + 1 + 1 + 1 + 1 + 1 + 1, o6') :: (s1.heap.objs.size + 1 + 1 + 1 + 1 + 1, o5') :: (s1.heap.objs.size + 1 + 1 + 1 + 1, o4') :: (s1.heap.objs.size + 1 + 1 + 1, o3') :: (s1.heap.objs.size + 1 + 1, o2') :: (s1.heap.objs.size + 1, o1) :: ownX2) ∧ ElsIn ownX2 ys ((els2.take i).map (fillE none ri))) ⟨rfl, .nil⟩ ?_ ?_
              · rintro ii ys nw v I oI C oC D' m₂ h tk E' hii ⟨rfl, hys⟩ hv hC hx F32 N33 off ne
                have off3 := off
                clear off ne
                obtain ⟨e, he, hin⟩ := hx4.get (show us2[ii]? = some v by simpa using hv)
                have cend : ∀ y, ElIn ownX2 y (fillE none ri e) → LCg.SrcAt s1.heap D us2.toArray (((s1.heap.objs.size + 1 + 1 + 1 + 1 + 1 + 1 + 1 + 1, o8d) :: (s1.heap.objs.size + 1 + 1 + 1 + 1 + 1 + 1 + 1, o7') :: (s1.heap.objs.size + 1 + 1 + 1 + 1 + 1 + 1, o6') :: (s1.heap.objs.size + 1 + 1 + 1 + 1 + 1, o5') :: (s1.heap.objs.size + 1 + 1 + 1 + 1, o4') :: (s1.heap.objs.size + 1 + 1 + 1, o3') :: (s1.heap.objs.size + 1 + 1, o2') :: (s1.heap.objs.size + 1, o1) :: ownX2)) ∧ (((s1.heap.objs.size + 1 + 1 + 1 + 1 + 1 + 1 + 1 + 1, o8d) :: (s1.heap.objs.size + 1 + 1 + 1 + 1 + 1 + 1 + 1, o7') :: (s1.heap.objs.size + 1 + 1 + 1 + 1 + 1 + 1, o6') :: (s1.heap.objs.size + 1 + 1 + 1 + 1 + 1, o5') :: (s1.heap.objs.size + 1 + 1 + 1 + 1, o4') :: (s1.heap.objs.size + 1 + 1 + 1, o3') :: (s1.heap.objs.size + 1 + 1, o2') :: (s1.heap.objs.size + 1, o1) :: ownX2)) = (((s1.heap.objs.size + 1 + 1 + 1 + 1 + 1 + 1 + 1 + 1, o8d) :: (s1.heap.objs.size + 1 + 1 + 1 + 1 + 1 + 1 + 1, o7') :: (s1.heap.objs.size + 1 + 1 + 1 + 1 + 1 + 1, o6') :: (s1.heap.objs.size + 1 + 1 + 1 + 1 + 1, o5') :: (s1.heap.objs.size + 1 + 1 + 1 + 1, o4') :: (s1.heap.objs.size + 1 + 1 + 1, o3') :: (s1.heap.objs.size + 1 + 1, o2') :: (s1.heap.objs.size + 1, o1) :: ownX2)) ∧ ElsIn ownX2 (ys ++ [y]) ((els2.take (ii + 1)).map (fillE none ri)) := fun y hy => ⟨.inr ⟨_, show (D, listOf us2.toArray nd) ∈ _ by k_mem, rfl, _, rfl⟩, rfl, by
                  rw [List.take_add_one, he, List.map_append]
                  exact hys.append (.cons hy .nil)⟩
                cases hin with
                | none =>
                  k_steps
                  exact ⟨⟨_, _, _, rfl, by assumption, by assumption, off3, cend _ .none⟩⟩
                | int j tj =>
                  k_steps
                  exact ⟨⟨_, _, _, rfl, by assumption, by assumption, off3, cend _ (.int _ _)⟩⟩
                | @set aS wS nS xS hs1 hs2 =>
                  have hrk9 := hlaw.rank hbrs (r := ri) (by omega) xS (List.mem_of_getElem? he)
                  have hwl := hs2.length
                  obtain ⟨q, tq, hq8, hq9⟩ := ints_at hs2 (z := (ri : Int)) (by omega) (by omega)
                  k_steps
                  refine ⟨sub_item ⟨_, (N33 (aS, listOf wS.toArray nS) (by k_mem)).1, rfl, _, rfl⟩ (by omega) (by omega) hq8 ?_⟩
                  k_steps
                  refine ⟨⟨_, _, _, rfl, by assumption, by assumption, off3, cend _ ?_⟩⟩
                  show ElIn ownX2 _ (El.int (xS.getD ri 0))
                  rw [List.getD_eq_getElem?_getD, show xS[ri]? = some q from hq9]
                  exact .int _ _
              · rintro ys nw ⟨rfl, hys⟩
                rw [show us2.toArray.size = els2.length by rw [List.size_toArray]; exact hels3.length, List.take_length] at hys
                unfold LCg.FinE
                intro D9 h' tk' F32 N33 o1'
                k_steps
                refine ⟨ne_els N33 (fun p hp => by k_mem) (fun p hp => by k_mem) (show (lp, listOf vp.toArray np9) ∈ _ by k_mem) (show (D9, listOf ys.toArray ys.length) ∈ _ by k_mem) hp4 hys (by ke_room) ?_⟩
                k_steps
                try any_goals with_reducible exact True.intro
                exact ⟨_, _, ownX2, _, rfl, hsubA, by assumption, fun p hp => N33 p (.tail _ hp), rfl, rfl, rfl, rfl, rfl, rfl⟩
            clear hmi hmb2 hmg hmr hmj hmd hmq
            rintro s' ⟨h2, tk2, ownX, m13, rfl, subX, F29, N30, hmi, hmb2, hmg, hmr, hmj, hmd⟩
            clear F28 N29
            k_steps
            replace N30 : News s1.heap s1.heap.objs.size _ (cel s1.heap.objs.size o8d o7' o6' o5' o4' o3' o2' o1 ++ ownX) := N30
            refine ⟨⟨_, _, _, _, cel s1.heap.objs.size o8d o7' o6' o5' o4' o3' o2' o1 ++ ownR, rfl, F29, N30, fun p hp => ?_, fun p hp => List.mem_append.mpr (.inr (subX p (how p hp))), rfl, List.mem_append.mpr (.inr hroR), o8d, _, rfl, e8d, hmi, hmb2, hmg, hmr, hmj, hmd⟩⟩
            rcases List.mem_append.mp hp with hp | hp
            · exact List.mem_append.mpr (.inl hp)
            · exact List.mem_append.mpr (.inr (subX p (subS p hp)))

        · rintro m₂ nx h tk ⟨o8c, v8c, rfl, e8c, hmi, hmb2, hmg, hmr, hmj, hmd⟩ F24 N25
          exact ⟨rfl, _, _, o8c, v8c, _, rfl, e8c, F24, N25, hmi, hmb2, hmg, hmr, hmj, hmd⟩
      clear hmi hmb2 hmg hmr hmj hmd
      rintro s' ⟨h2, tk2, o8c, v8c, m9, rfl, e8c, F24, N25, hmi, hmb2, hmg, hmr, hmj, hmd⟩
      clear F23 N24
      k_steps
      refine InvEndG.intro (nx := cel s1.heap.objs.size o8c o7' o6' o5' o4' o3' o2' o1 ++ own5) F24 N25 ⟨o8c, o7', o6', _, _, _, own5, rfl, e8c, d7', d6', far5, sub5, hmi, hmb2, hmg, hmr⟩ hoff (fun p hp => ?_) (fun p hp => List.mem_append.mpr (.inr (hoi p hp)))
      rcases List.mem_append.mp hp with hp | hp
      · exact List.mem_append.mpr (.inl hp)
      · exact List.mem_append.mpr (.inr (ho5 p hp))
    · rintro m₁ nx h tk hJ F16 N17
      exact ⟨rfl, _, _, m₁, nx, rfl, hJ, F16, N17⟩
  clear hmi hmb2 hma hmh hmg hmr
  rintro s' ⟨h2, tk2, m10, nx, rfl, hJ, F14, N15⟩
  clear F13 N14
  obtain ⟨⟨o8', o7', o6', v8, v7, v6, ownZ, rfl, e8, e7, e6, farZ, subZ, hmi, hmb2, hmg, hmr⟩⟩ := hJ
  have hQk : Quick := ⟨⟩
  have hsubQ : ∀ p ∈ own2, p ∈ ownZ := fun p hp => subZ _ (hsub4 _ (hsub3 _ hp))
  replace hder := hder.mono hsubQ
  replace F14 := frK0 [(Str.ofString "indexes", .ref D), (Str.ofString "branches", .ref D2), (Str.ofString "again", .ref x2), (Str.ofString "ranks", .ref rk)] F14 (by
    intro p hp
    simp only [List.mem_cons, List.not_mem_nil, or_false] at hp
    rcases hp with rfl | rfl | rfl | rfl <;> assumption)
  clear hmi hmb2 hmg hmr
  replace N15 : News s1.heap s1.heap.objs.size h2 ((s1.heap.objs.size + 1 + 1 + 1 + 1 + 1 + 1 + 1 + 1, o8') :: (s1.heap.objs.size + 1 + 1 + 1 + 1 + 1 + 1 + 1, o7') :: (s1.heap.objs.size + 1 + 1 + 1 + 1 + 1 + 1, o6') :: (s1.heap.objs.size + 1 + 1 + 1 + 1 + 1, o5') :: (s1.heap.objs.size + 1 + 1 + 1 + 1, o4') :: (s1.heap.objs.size + 1 + 1 + 1, o3') :: (s1.heap.objs.size + 1 + 1, o2') :: (s1.heap.objs.size + 1, o1) :: ownZ) := N15
  have hel2 := hlaw.len
  obtain ⟨td, nd, hx1, hx2, hx3, hx4⟩ := id hder
  k_steps
  refine ⟨wpAny_call (fill_con w els2 (some 2) none (by omega) (fun z hz => by cases hz; omega) (law_brOk0 hlaw hbrs) _ _ mg mb _ _ _ _ _ _ _ _ _ _ _ _ _ _ _ _ _ _ K1 (by k_asm) KX (by k_asm) T rfl ⟨x, dx, D, us2, _, _, hder.mono fun p hp => by k_mem, .int _ _, .none, .inr ⟨rfl, rfl⟩⟩ ?_ ?_ ?_)⟩
  · decide
  · decide
  intro r1 tl h1 tk1 F30 N31 hD31 ho
  obtain ⟨ownA, N9, far9, sub9, _, _, un9⟩ := law_back (cel_data (o8 := o8') (o7 := o7') (o6 := o6') (o5 := o5') (o4 := o4') (o3 := o3') (o2 := o2') (o1 := o1) e8 e7 e6 d5' d4' d3' d2' d1) N31 hD31 farZ
  obtain ⟨L1, u1, n1, rfl, ho1, ho2⟩ := ho
  replace ho2 : ElsIn _ u1 (els2.map (fillE (some 2) 0)) := ho2
  replace ho1 := un9 _ ho1 noCell_list
  replace ho2 := ho2.un un9
  replace hder := hder.mono sub9
  clear N31 F14 N15 hx1 hx2 hx3 hx4
  obtain ⟨td, nd, hx1, hx2, hx3, hx4⟩ := id hder
  k_steps
  refine ⟨wpAny_call (fill_con w els2 (some 2) (some 0) (by omega) (fun z hz => by cases hz; omega) (fun xs hx => law_brOk0 hlaw hbrs xs hx) _ _ mg mb _ _ _ _ _ _ _ _ _ _ _ _ _ _ _ _ _ _ K1 (by k_asm) KX (by k_asm) T rfl ⟨x, dx, D, us2, _, _, hder.mono fun p hp => by k_mem, .int _ _, .int _ _, .inl rfl⟩ ?_ ?_ ?_)⟩
  · decide
  · decide
  intro r2 tl2 h2 tk2 F31 N32 hD32 hq
  obtain ⟨ownB, N8, far8, sub8, _, _, un8⟩ := law_back (cel_data (o8 := o8') (o7 := o7') (o6 := o6') (o5 := o5') (o4 := o4') (o3 := o3') (o2 := o2') (o1 := o1) e8 e7 e6 d5' d4' d3' d2' d1) N32 hD32 far9
  obtain ⟨L2, u2, n2, rfl, hq1, hq2⟩ := hq
  replace hq2 : ElsIn _ u2 (els2.map (fillE (some 2) 0)) := hq2
  replace hq1 := un8 _ hq1 noCell_list
  replace hq2 := hq2.un un8
  replace ho1 := sub8 _ ho1
  replace ho2 := ho2.mono sub8
  clear N32 F30 N9 hx1 hx2 hx3 hx4
  k_steps
  refine ⟨eq_els N8 (fun p hp => by k_mem) (fun p hp => by k_mem) (by k_mem) (by k_mem) ho2 hq2 (by ke_room) ?_⟩
  k_steps
end Mine
theorem PySem.Challenge.cw_ai0021_01_holds : PySem.Challenge.rw_ai0021_01.Holds :=
  Mine.law_holds
